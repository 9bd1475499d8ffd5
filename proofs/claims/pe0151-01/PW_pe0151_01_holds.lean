import PyProof.Rows.All
import Wide.All
import OpenK.AllK
import Wide.FinOn
import PySem.Challenge.RW_pe0151_01
set_option Elab.async false
set_option compiler.extract_closed false
set_option maxRecDepth 100000
set_option maxHeartbeats 100000000
section
open PySem PySem.W PyProof.Rows
namespace Mine
open_top hd for PySem.Challenge.rw_pe0151_01
end Mine
end
section
open PySem PySem.W PySem.Spec PySem.Calls PyProof.Rows
namespace Mine
/-- a contract of a def of the text, over any frame and ledger -/
noncomputable abbrev Ct (w : World) (f : Addr) (vs : List Value) (news : List (Addr × Obj)) (d u : Nat) (Post : Value → List (Addr × Obj) → Prop) : Prop :=
  ∀ (dp un : Nat) (gd : Option (List Code)) (cn : Str) (cs : Scope) (a : Addr) (ccd : Value) (cl : List (Str × Addr)) (outer : List Env) (A₀ : Around) (base h₀ : Heap) (L : Addr) (m : Str → Option Value) (s : Shared) (Q E : Value → Shared → Prop)
    (p : Program) (loose : List Str) (mean : ExcName → Option Value) (mg mb : Str → Option Value),
    Below A₀ base outer h₀ → Fr h₀ L s.heap m → (hd.heap_39 w.params).In h₀ → News h₀ L s.heap news → Top p loose mean mg mb h₀ → cs.kind = .function → dp + d < recursionLimit → un + u < cLine →
    (∀ (r : Value) (news' : List (Addr × Obj)) (h' : Heap) (tk' : Nat), Post r news' → Fr h₀ L h' m → News h₀ L h' news' → Q r { s with heap := h', toks := tk' }) →
    wpAny (model PySem.Challenge.rw_pe0151_01.row.prog w) (ktrTop dp un gd cn cs L a ccd cl outer) (call (.ref f) vs) Q E s
theorem Ct.use {w : World} {f : Addr} {vs : List Value} {news : List (Addr × Obj)} {d u : Nat} {Post : Value → List (Addr × Obj) → Prop} (c : Ct w f vs news d u Post)
    {dp un : Nat} {gd : Option (List Code)} {cn : Str} {cs : Scope} {a : Addr} {ccd : Value} {cl : List (Str × Addr)} {outer : List Env} {A₀ : Around} {base h₀ : Heap} {L : Addr} {m : Str → Option Value} {s : Shared} {Q E : Value → Shared → Prop}
    {p : Program} {loose : List Str} {mean : ExcName → Option Value} {mg mb : Str → Option Value}
    (B : Below A₀ base outer h₀) (F : Fr h₀ L s.heap m) (X : (hd.heap_39 w.params).In h₀) (N : News h₀ L s.heap news) (T : Top p loose mean mg mb h₀) (hk : cs.kind = .function) (hd : dp + d < recursionLimit) (hu : un + u < cLine)
    (ret : ∀ (r : Value) (news' : List (Addr × Obj)) (h' : Heap) (tk' : Nat), Post r news' → Fr h₀ L h' m → News h₀ L h' news' → Q r { s with heap := h', toks := tk' }) :
    wpAny (model PySem.Challenge.rw_pe0151_01.row.prog w) (ktrTop dp un gd cn cs L a ccd cl outer) (call (.ref f) vs) Q E s :=
  c _ _ _ _ _ _ _ _ _ _ _ _ _ _ _ _ _ _ _ _ _ _ B F X N T hk hd hu ret
/-- the frame's map, said by the names that are still of use -/
theorem fr_named {h₀ h : Heap} {L : Addr} {m : Str → Option Value} (F : Fr h₀ L h m) (ps : List (Str × Value)) (hp : ∀ p ∈ ps, m p.1 = some p.2) : ∃ m', Fr h₀ L h (kstB m' ps) := by
  refine ⟨m, ?_⟩
  have : kstB m ps = m := funext fun z => kstB_eq hp fun _ => rfl
  rw [this]
  exact F
noncomputable abbrev lexDict (q1 q2 q3 q4 : Int) (t1 t2 t3 t4 t5 t6 : Tok) (ln : Int) (st pl : Addr) : List DictEntry :=
  [⟨q1, .str (Str.ofString "lineno") t1, .int ln t2⟩, ⟨q2, .str (Str.ofString "instream") t3, .ref st⟩, ⟨q3, .str (Str.ofString "whitespace") t4, .str (Str.ofString "\n\t\u000d ") t5⟩, ⟨q4, .str (Str.ofString "pushback") t6, .ref pl⟩]
/-- what is left to do is a name: the goal's terms stay small -/
theorem fold_q {α : Type} {P : Model} {A : Around} {t : Sem α} {Q : α → Shared → Prop} {E : Value → Shared → Prop} {s : Shared} (h : ∀ q : α → Shared → Prop, (∀ f s, Q f s → q f s) → wpAny P A t q E s) : wpAny P A t Q E s := h Q fun _ _ x => x
theorem neAll {news : List (Addr × Obj)} {L x : Nat} (h : ∀ p ∈ news, p.1 < L) (hx : L ≤ x) : ∀ p ∈ news, p.1 ≠ x := fun p hp => Nat.ne_of_lt (Nat.lt_of_lt_of_le (h p hp) hx)
end Mine
end

section
open PySem PySem.W PySem.Spec PySem.Calls PyProof.Rows
namespace Mine

theorem push_ct {w : World} {x dx pl st : Nat} {items : List Value} {n nd : Nat} {ln : Int} {q1 q2 q3 q4 : Int} {t1 t2 t3 t4 t5 t6 tc : Tok} {c : Str} {rest : List (Addr × Obj)}
    (o1 : dx < x) (o2 : x < pl) (hl : items.length < 1000) (hr : ∀ p ∈ rest, p.1 ≠ pl) :
    Ct w 63 [.ref x, .str c tc] ((pl, listOf items.toArray n) :: (x, instObj 66 dx) :: (dx, dictOf (lexDict q1 q2 q3 q4 t1 t2 t3 t4 t5 t6 ln st pl) nd) :: rest) 1 8
      (fun r news' => r = .none ∧ news' = ((pl, listOf (items ++ [Value.str c tc]).toArray (n + 1)) :: (x, instObj 66 dx) :: (dx, dictOf (lexDict q1 q2 q3 q4 t1 t2 t3 t4 t5 t6 ln st pl) nd) :: rest)) := by
  unfold Ct
  k_fill
  w_top off
  intro dp un gd cn cs a ccd cl outer A₀ base h₀ L m s Q E p loose mean mg mb B F X N T hk hd hu hret
  refine wpAny_call ?_
  (k_dflt cell_enter)
  k_steps
  refine append_K (by assumption) (by assumption) (Upd.head ?_) ?_ ?_
  · intro p hp; rcases List.mem_cons.mp hp with rfl | hp; · k_ne
    rcases List.mem_cons.mp hp with rfl | hp; · k_ne
    exact hr p hp
  rotate_left
  · rw [List.size_toArray, sizeLine_eq]; omega
  intro h' F' N'
  k_steps
  refine hret _ _ _ _ ⟨rfl, rfl⟩ (by assumption) ?_
  rw [← List.push_toArray]
  assumption

theorem pop_ct {w : World} {x dx pl st : Nat} {items : List Value} {n nd : Nat} {ln : Int} {q1 q2 q3 q4 : Int} {t1 t2 t3 t4 t5 t6 tc : Tok} {c : Str} {rest : List (Addr × Obj)}
    (o1 : dx < x) (o2 : x < pl) (hl : items.length < 1000) (hr : ∀ p ∈ rest, p.1 ≠ pl) :
    Ct w 56 [.ref x] ((pl, listOf (.str c tc :: items).toArray n) :: (x, instObj 66 dx) :: (dx, dictOf (lexDict q1 q2 q3 q4 t1 t2 t3 t4 t5 t6 ln st pl) nd) :: rest) 1 8
      (fun r news' => r = .str c tc ∧ news' = ((pl, listOf items.toArray (n + 1)) :: (x, instObj 66 dx) :: (dx, dictOf (lexDict q1 q2 q3 q4 t1 t2 t3 t4 t5 t6 ln st pl) nd) :: rest)) := by
  unfold Ct
  k_fill
  w_top off
  intro dp un gd cn cs a ccd cl outer A₀ base h₀ L m s Q E p loose mean mg mb B F X N T hk hd hu hret
  refine wpAny_call ?_
  (k_dflt cell_enter)
  k_steps
  refine kl_popAt (k := 0) (p := []) (y := .str c tc) (q := items) (by assumption) (by assumption) (by decide) ?_ ?_ (Upd.head ?_) ?_ ?_
  · unfold seqIndex?; simp
  · rfl
  · intro p hp; rcases List.mem_cons.mp hp with rfl | hp; · k_ne
    rcases List.mem_cons.mp hp with rfl | hp; · k_ne
    exact hr p hp
  · rw [sizeLine_eq]; simp; omega
  intro h' F' N'
  k_steps
  refine hret _ _ _ _ ⟨rfl, rfl⟩ (by assumption) ?_
  assumption
end Mine
end

section
open PySem PySem.W PySem.Spec PySem.Calls PyProof.Rows
namespace Mine
noncomputable def fmax3 (x y z : UInt64) : UInt64 :=
  if Float64.cmp x y == some .lt then (if Float64.cmp y z == some .lt then z else y) else (if Float64.cmp x z == some .lt then z else x)
noncomputable def fmin3 (x y z : UInt64) : UInt64 :=
  if Float64.cmp y x == some .lt then (if Float64.cmp z y == some .lt then z else y) else (if Float64.cmp z x == some .lt then z else x)
section
variable {prog : Program} {w : World} {A : Around} {E : Value → Shared → Prop} {s : Shared} {Q : Value → Shared → Prop} {x y z : UInt64} {t u v : Tok} {h₀ : Heap} {L : Addr} {m : Str → Option Value} {news : List (Addr × Obj)}
theorem max3_f (hh : A.handled = none) (F : Fr h₀ L s.heap m) (N : News h₀ L s.heap news)
    (h : ∀ h' tk o, Fr h₀ L h' m → News h₀ L h' news → Q (.float (fmax3 x y z) o) { s with heap := h', toks := tk }) :
    wpAny (model prog w) A (call (.builtin "max") [.float x t, .float y u, .float z v]) Q E s := by
  have hT : (s.heap.push { cls := .type "tuple", data := .seq #[.float x t, .float y u, .float z v] }).IsTuple s.heap.objs.size #[.float x t, .float y u, .float z v] := ⟨_, Heap.get?_push_size _ rfl, rfl, 0, rfl⟩
  refine call_max_three (wpAny_pyIter_tuple hT ?_)
  have hsz : (s.heap.push { cls := .type "tuple", data := .seq #[.float x t, .float y u, .float z v] }).objs.size = s.heap.objs.size + 1 := Heap.size_push ..
  refine ⟨_, [_, s.heap.objs.size], [_], _, _, _, _, rfl, Walks.tuple (A := A.in1) hh _ s.heap.objs.size (by rw [hsz]; exact Nat.ne_of_lt (Nat.lt_succ_self _)) #[.float x t, .float y u, .float z v],
    ⟨⟨_, Heap.get?_push_size _ rfl, rfl, rfl⟩, hT.push _⟩, fun c hc => ?_, by simp, Flt.cmpOf_gt #[.float x t, .float y u, .float z v] (by simp; exact ⟨.float x t, .float y u, .float z v⟩), fun r h' tk hP hk => ?_⟩
  · show c < ((s.heap.push _).push _).objs.size
    rw [Heap.size_push, hsz]
    rcases List.mem_cons.mp hc with rfl | hc
    · rw [hsz]; exact Nat.lt_succ_self _
    · rcases List.mem_cons.mp hc with rfl | hc
      · exact Nat.lt_succ_of_lt (Nat.lt_succ_self _)
      · cases hc
  · have kp : ∀ c o, s.heap.get? c = some o → h'.get? c = some o := fun c o e => by
      refine hk c o (fun hm => ?_) (Heap.get?_push_of_some _ (Heap.get?_push_of_some _ e))
      rcases List.mem_cons.mp hm with e1 | hm
      · have := Heap.lt_size e; rw [e1, hsz] at this; exact Nat.lt_irrefl _ (Nat.lt_of_succ_lt this)
      · cases hm
    have hv : ∃ o, r = .float (fmax3 x y z) o := by
      unfold fmax3
      cases h1 : (Float64.cmp x y == some .lt) <;> cases h2 : (Float64.cmp y z == some .lt) <;> cases h3 : (Float64.cmp x z == some .lt) <;>
        simp [argBest, Flt.ltV, h1, h2, h3] at hP <;> simp [← hP]
    obtain ⟨o, rfl⟩ := hv
    exact h h' tk o (F.grownK kp) (N.grown kp)
theorem min3_f (hh : A.handled = none) (F : Fr h₀ L s.heap m) (N : News h₀ L s.heap news)
    (h : ∀ h' tk o, Fr h₀ L h' m → News h₀ L h' news → Q (.float (fmin3 x y z) o) { s with heap := h', toks := tk }) :
    wpAny (model prog w) A (call (.builtin "min") [.float x t, .float y u, .float z v]) Q E s := by
  have hT : (s.heap.push { cls := .type "tuple", data := .seq #[.float x t, .float y u, .float z v] }).IsTuple s.heap.objs.size #[.float x t, .float y u, .float z v] := ⟨_, Heap.get?_push_size _ rfl, rfl, 0, rfl⟩
  refine call_min_three (wpAny_pyIter_tuple hT ?_)
  have hsz : (s.heap.push { cls := .type "tuple", data := .seq #[.float x t, .float y u, .float z v] }).objs.size = s.heap.objs.size + 1 := Heap.size_push ..
  refine ⟨_, [_, s.heap.objs.size], [_], _, _, _, _, rfl, Walks.tuple (A := A.in1) hh _ s.heap.objs.size (by rw [hsz]; exact Nat.ne_of_lt (Nat.lt_succ_self _)) #[.float x t, .float y u, .float z v],
    ⟨⟨_, Heap.get?_push_size _ rfl, rfl, rfl⟩, hT.push _⟩, fun c hc => ?_, by simp, Flt.cmpOf_lt #[.float x t, .float y u, .float z v] (by simp; exact ⟨.float x t, .float y u, .float z v⟩), fun r h' tk hP hk => ?_⟩
  · show c < ((s.heap.push _).push _).objs.size
    rw [Heap.size_push, hsz]
    rcases List.mem_cons.mp hc with rfl | hc
    · rw [hsz]; exact Nat.lt_succ_self _
    · rcases List.mem_cons.mp hc with rfl | hc
      · exact Nat.lt_succ_of_lt (Nat.lt_succ_self _)
      · cases hc
  · have kp : ∀ c o, s.heap.get? c = some o → h'.get? c = some o := fun c o e => by
      refine hk c o (fun hm => ?_) (Heap.get?_push_of_some _ (Heap.get?_push_of_some _ e))
      rcases List.mem_cons.mp hm with e1 | hm
      · have := Heap.lt_size e; rw [e1, hsz] at this; exact Nat.lt_irrefl _ (Nat.lt_of_succ_lt this)
      · cases hm
    have hv : ∃ o, r = .float (fmin3 x y z) o := by
      unfold fmin3
      cases h1 : (Float64.cmp y x == some .lt) <;> cases h2 : (Float64.cmp z y == some .lt) <;> cases h3 : (Float64.cmp z x == some .lt) <;>
        simp [argBest, Flt.ltV, h1, h2, h3] at hP <;> simp [← hP]
    obtain ⟨o, rfl⟩ := hv
    exact h h' tk o (F.grownK kp) (N.grown kp)
end
noncomputable abbrev tup3 (a b c : Value) : Obj := { cls := .type "tuple", data := .seq #[a, b, c] }
theorem rgb_ct {w : World} {r g b : UInt64} {th ts tv : Tok} {news : List (Addr × Obj)} (z1 : Float64.isZero (Float64.add (fmax3 r g b) (fmin3 r g b)) = false) (z2 : Float64.isZero (Float64.sub (fmax3 r g b) (fmin3 r g b)) = false)
    (z3 : Float64.isZero (Float64.sub (Float64.sub 4611686018427387904 (fmax3 r g b)) (fmin3 r g b)) = false) :
    Ct w 21 [.float r th, .float g ts, .float b tv] news 1 8
      (fun v news' => ∃ (q : Nat) (H S : UInt64) (t1 t2 t3 : Tok), v = .ref q ∧ (∀ p ∈ news, p.1 < q) ∧ news' = (q, tup3 (.float H t1) (.float (Float64.div (Float64.add (fmax3 r g b) (fmin3 r g b)) 4611686018427387904) t2) (.float S t3)) :: news) := by
  unfold Ct
  k_fill
  w_top off
  intro dp un gd cn cs a ccd cl outer A₀ base h₀ L m s Q E p loose mean mg mb B F X N T hk hd hu hret
  refine wpAny_call ?_
  (k_dflt cell_enter)
  k_steps
  refine max3_f rfl (by assumption) (by assumption) ?_
  intro h' tk o F' N'
  generalize fmax3 r g b = mx at *
  k_steps
  refine min3_f rfl (by assumption) (by assumption) ?_
  intro h' tk o F' N'
  generalize fmin3 r g b = mn at *
  k_steps
  all_goals first
    | exact hret _ _ _ _ ⟨_, _, _, _, _, _, rfl, by assumption, rfl⟩ (by assumption) (by assumption)
    | (exfalso; simp_all; done)
noncomputable def hx (h : UInt64) : UInt64 := Float64.mul h 4618441417868443648
noncomputable def hi (h : UInt64) : Int := Flt.toInt Float64.truncOf (hx h)
noncomputable def hf (h : UInt64) : UInt64 := Float64.sub (hx h) (Float64.ofInt (hi h))
noncomputable def pF (s v : UInt64) : UInt64 := Float64.mul v (Float64.sub 4607182418800017408 s)
noncomputable def qF (h s v : UInt64) : UInt64 := Float64.mul v (Float64.sub 4607182418800017408 (Float64.mul s (hf h)))
noncomputable def tF (h s v : UInt64) : UInt64 := Float64.mul v (Float64.sub 4607182418800017408 (Float64.mul s (Float64.sub 4607182418800017408 (hf h))))
/-- the colour that hsv_to_rgb gives, by its sixth of the wheel -/
noncomputable def hsvV (i : Int) (v p q t : UInt64) : UInt64 × UInt64 × UInt64 :=
  if i = 0 then (v, t, p) else if i = 1 then (q, v, p) else if i = 2 then (p, v, t) else if i = 3 then (p, q, v) else if i = 4 then (t, p, v) else (v, p, q)
theorem hsv_ct {w : World} {h s v : UInt64} {th ts tv : Tok} {news : List (Addr × Obj)} (c1 : (Float64.cmp s 0 == some Ordering.eq) = false) (c2 : Float64.isFinite (hx h) = true) (c3 : (hi h).natAbs < 1000) (c4 : 0 ≤ (hi h).fmod 6) (c5 : (hi h).fmod 6 < 6)
    (c6 : Float64.isNaN (hx h) = false) (c7 : Float64.isInf (hx h) = false) :
    Ct w 28 [.float h th, .float s ts, .float v tv] news 1 8
      (fun r news' => ∃ (q : Nat) (t1 t2 t3 : Tok), r = .ref q ∧ (∀ p ∈ news, p.1 < q) ∧ news' = (q, tup3 (.float (hsvV ((hi h).fmod 6) v (pF s v) (qF h s v) (tF h s v)).1 t1) (.float (hsvV ((hi h).fmod 6) v (pF s v) (qF h s v) (tF h s v)).2.1 t2) (.float (hsvV ((hi h).fmod 6) v (pF s v) (qF h s v) (tF h s v)).2.2 t3)) :: news) := by
  unfold Ct
  k_fill
  w_top off
  have big : 1000 ≤ 2 ^ 1024 - 2 ^ 970 := by decide +kernel
  intro dp un gd cn cs a ccd cl outer A₀ base h₀ L m s Q E p loose mean mg mb B F X N T hk hd hu hret
  refine wpAny_call ?_
  (k_dflt cell_enter)
  k_steps
  · exfalso
    have c : Float64.isNaN (hx h) = true := by assumption
    rw [c6] at c; cases c
  · exfalso
    have c : Float64.isInf (hx h) = true := by assumption
    rw [c7] at c; cases c
  · exfalso
    have c : 2 ^ 1024 - 2 ^ 970 ≤ (hi h).natAbs := by assumption
    exact absurd (Nat.lt_of_lt_of_le c3 (Nat.le_trans big c)) (Nat.lt_irrefl _)
  · have e : (hi h).fmod 6 = 0 := by assumption
    simp only [e, hsvV, if_true] at hret
    exact hret _ _ _ _ ⟨_, _, _, _, rfl, by assumption, rfl⟩ (by assumption) (by assumption)
  · have e : (hi h).fmod 6 = 1 := by assumption
    simp only [e, hsvV, if_true, if_false, Int.reduceEq] at hret
    exact hret _ _ _ _ ⟨_, _, _, _, rfl, by assumption, rfl⟩ (by assumption) (by assumption)
  · have e : (hi h).fmod 6 = 2 := by assumption
    simp only [e, hsvV, if_true, if_false, Int.reduceEq] at hret
    exact hret _ _ _ _ ⟨_, _, _, _, rfl, by assumption, rfl⟩ (by assumption) (by assumption)
  · have e : (hi h).fmod 6 = 3 := by assumption
    simp only [e, hsvV, if_true, if_false, Int.reduceEq] at hret
    exact hret _ _ _ _ ⟨_, _, _, _, rfl, by assumption, rfl⟩ (by assumption) (by assumption)
  · have e : (hi h).fmod 6 = 4 := by assumption
    simp only [e, hsvV, if_true, if_false, Int.reduceEq] at hret
    exact hret _ _ _ _ ⟨_, _, _, _, rfl, by assumption, rfl⟩ (by assumption) (by assumption)
  · have e : (hi h).fmod 6 = 5 := by assumption
    simp only [e, hsvV, if_true, if_false, Int.reduceEq] at hret
    exact hret _ _ _ _ ⟨_, _, _, _, rfl, by assumption, rfl⟩ (by assumption) (by assumption)
  · exfalso
    have e0 : (hi h).fmod 6 ≠ 0 := by assumption
    have e1 : (hi h).fmod 6 ≠ 1 := by assumption
    have e2 : (hi h).fmod 6 ≠ 2 := by assumption
    have e3 : (hi h).fmod 6 ≠ 3 := by assumption
    have e4 : (hi h).fmod 6 ≠ 4 := by assumption
    have e5 : (hi h).fmod 6 ≠ 5 := by assumption
    clear big
    generalize (hi h).fmod 6 = z at *
    omega
end Mine
end

section
open PySem PySem.W PySem.Spec PySem.Calls PyProof.Rows
namespace Mine
noncomputable def mF (k : Int) : UInt64 := Float64.ofFrac (decide (2 * k + 1 < 0) != decide ((32 : Int) < 0)) (2 * k + 1).natAbs (Int.natAbs 32)
noncomputable def eF (k : Int) : UInt64 := Float64.ofFrac (decide (k < 0) != decide ((8 : Int) < 0)) k.natAbs (Int.natAbs 8)
noncomputable def colA (h : UInt64) : Bool := Float64.isFinite (hx h) && decide ((hi h).natAbs < 1000) && decide (0 ≤ (hi h).fmod 6) && decide ((hi h).fmod 6 < 6) && !Float64.isNaN (hx h) && !Float64.isInf (hx h)
noncomputable def colB (want : Bool) (c : UInt64 × UInt64 × UInt64) (mx mn : UInt64) : Bool :=
  !Float64.isZero (Float64.add mx mn) && !Float64.isZero (Float64.sub mx mn) && !Float64.isZero (Float64.sub (Float64.sub 4611686018427387904 mx) mn) &&
    ((Float64.cmp c.1 (Float64.div (Float64.add mx mn) 4611686018427387904) == some .gt) == want)
/-- a mark's whole turns do not count -/
noncomputable def colP (m : Nat) : Bool := colA (mF m) && ((hi (mF m)).fmod 6 == (hi (mF ((m % 16 : Nat) : Int))).fmod 6) && (hf (mF m) == hf (mF ((m % 16 : Nat) : Int)))
theorem colP_all : ((List.range 121).all colP) = true := by decide +kernel
noncomputable abbrev colC (i : Int) (f s v : UInt64) : UInt64 × UInt64 × UInt64 :=
  hsvV i v (pF s v) (Float64.mul v (Float64.sub 4607182418800017408 (Float64.mul s f))) (Float64.mul v (Float64.sub 4607182418800017408 (Float64.mul s (Float64.sub 4607182418800017408 f))))
noncomputable def colQ (want : Bool) (c : UInt64 × UInt64 × UInt64) : Bool := colB want c (fmax3 c.1 c.2.1 c.2.2) (fmin3 c.1 c.2.1 c.2.2)
noncomputable def colM (m : Nat) : Bool := (List.range 8).all fun s => (List.range 8).all fun v => colQ (decide (((m : Int) + 4) % 16 < 8)) (colC ((hi (mF m)).fmod 6) (hf (mF m)) (eF ((s + 1 : Nat) : Int)) (eF ((v + 1 : Nat) : Int)))
theorem colM0 : colM 0 = true := by decide +kernel
theorem colM1 : colM 1 = true := by decide +kernel
theorem colM2 : colM 2 = true := by decide +kernel
theorem colM3 : colM 3 = true := by decide +kernel
theorem colM4 : colM 4 = true := by decide +kernel
theorem colM5 : colM 5 = true := by decide +kernel
theorem colM6 : colM 6 = true := by decide +kernel
theorem colM7 : colM 7 = true := by decide +kernel
theorem colM8 : colM 8 = true := by decide +kernel
theorem colM9 : colM 9 = true := by decide +kernel
theorem colM10 : colM 10 = true := by decide +kernel
theorem colM11 : colM 11 = true := by decide +kernel
theorem colM12 : colM 12 = true := by decide +kernel
theorem colM13 : colM 13 = true := by decide +kernel
theorem colM14 : colM 14 = true := by decide +kernel
theorem colM15 : colM 15 = true := by decide +kernel
theorem colM_all : ∀ (m : Nat) (_ : m < 16), colM m = true
  | 0, _ => colM0
  | 1, _ => colM1
  | 2, _ => colM2
  | 3, _ => colM3
  | 4, _ => colM4
  | 5, _ => colM5
  | 6, _ => colM6
  | 7, _ => colM7
  | 8, _ => colM8
  | 9, _ => colM9
  | 10, _ => colM10
  | 11, _ => colM11
  | 12, _ => colM12
  | 13, _ => colM13
  | 14, _ => colM14
  | 15, _ => colM15
  | n + 16, h => absurd h (Nat.not_lt.mpr (Nat.le_add_left 16 n))
noncomputable def colS : Bool := (List.range 8).all fun s => !(Float64.cmp (eF ((s + 1 : Nat) : Int)) 0 == some .eq)
theorem colS_all : colS = true := by decide +kernel
theorem col_facts {k share value : Int} (k0 : 0 ≤ k) (k1 : k ≤ 120) (s0 : 1 ≤ share) (s1 : share ≤ 8) (v0 : 1 ≤ value) (v1 : value ≤ 8) :
    (Float64.cmp (eF share) 0 == some .eq) = false ∧ colA (mF k) = true ∧
    colQ (decide ((k + 4) % 16 < 8)) (hsvV ((hi (mF k)).fmod 6) (eF value) (pF (eF share) (eF value)) (qF (mF k) (eF share) (eF value)) (tF (mF k) (eF share) (eF value))) = true := by
  obtain ⟨m, rfl⟩ := Int.eq_ofNat_of_zero_le k0
  obtain ⟨a, rfl⟩ : ∃ a : Nat, share = ((a + 1 : Nat) : Int) := ⟨share.toNat - 1, by omega⟩
  obtain ⟨b, rfl⟩ : ∃ b : Nat, value = ((b + 1 : Nat) : Int) := ⟨value.toNat - 1, by omega⟩
  have hm : m < 121 := by omega
  have ha : a < 8 := by omega
  have hb : b < 8 := by omega
  have P := List.all_eq_true.mp colP_all m (List.mem_range.mpr hm)
  simp only [colP, Bool.and_eq_true, beq_iff_eq] at P
  obtain ⟨⟨P1, P2⟩, P3⟩ := P
  have S := List.all_eq_true.mp colS_all a (List.mem_range.mpr ha)
  have M := colM_all (m % 16) (Nat.mod_lt _ (by decide))
  have M := List.all_eq_true.mp (List.all_eq_true.mp M a (List.mem_range.mpr ha)) b (List.mem_range.mpr hb)
  refine ⟨by simpa using S, P1, ?_⟩
  have e : decide ((((m % 16 : Nat) : Int) + 4) % 16 < 8) = decide (((m : Int) + 4) % 16 < 8) := by
    rw [decide_eq_decide]; omega
  rw [e] at M
  unfold qF tF
  rw [P2, P3]
  exact M
end Mine
end

section
open PySem PySem.W PySem.Spec PySem.Calls PyProof.Rows
namespace Mine
noncomputable def letter (m : Int) : Str := if (m + 4) % 16 < 8 then Str.ofString "A" else Str.ofString "a"
theorem letters_ct {w : World} {place share value : Int} {th ts tv : Tok} {news : List (Addr × Obj)} (p0 : 0 ≤ place) (p1 : place ≤ 113) (s0 : 1 ≤ share) (s1 : share ≤ 8) (v0 : 1 ≤ value) (v1 : value ≤ 8) :
    Ct w 105 [.int place th, .int share ts, .int value tv] news 3 20
      (fun r news' => ∃ (l : Nat) (vs : List Value) (n : Nat), r = .ref l ∧ (∀ p ∈ news, p.1 < l) ∧ StrsAre vs ((rangeKs place 8).map letter) ∧ news' = (l, listOf vs.toArray n) :: news) := by
  unfold Ct
  k_fill
  w_top off
  intro dp un gd cn cs a ccd cl outer A₀ base h₀ L m s Q E p loose mean mg mb B F X N T hk hd hu hret
  refine wpAny_call ?_
  (k_dflt cell_enter)
  iterate 22 (first | (k_unfold; (try dsimp only)) | (k_end; wrow_close) | walk1 | (dsimp only; walk1) | (leave1; walk_say "STEP leave1"; try dsimp only) | fail "no step")
  rename_i g1 L1 h1 FG B1 X1 T1 tk0 l h2 l1 h3 F2 N2 h4 tk4 t1 u1 w1 rg F3 N3 kp
  refine kst_range (σ := List Value × Nat) (fun c => (l, listOf c.1.toArray c.2) :: news) (fun _ => []) (fun _ => True) [Str.ofString "red", Str.ofString "green", Str.ofString "blue", Str.ofString "hue", Str.ofString "lightness", Str.ofString "depth"] (fun pre c => StrsAre c.1 (pre.map letter)) ([], 0)
    (by rfl) rg (small_one (by omega) (by omega) (by omega) (by omega)) (rangeSize_nat _ _) F3 N3 trivial (fun _ hp => nomatch hp) .nil ?turn ?done
  case turn =>
    intro c pre k t u h tk own hk' hlt hoff _ hP F4 N4
    have F4 : Fr g1 L1 h _ := F4
    have N4 : News g1 L1 h ((l, listOf c.1.toArray c.2) :: (news ++ own)) := N4
    clear F2 N2 F3 N3
    (with_reducible show wpAny _ _ _ _ _ _)
    k_fold
    obtain ⟨c1, cA, cQ⟩ := col_facts (k := k) (share := share) (value := value) (by omega) (by omega) s0 s1 v0 v1
    simp only [colA, Bool.and_eq_true, decide_eq_true_eq, Bool.not_eq_true'] at cA
    obtain ⟨⟨⟨⟨⟨a1, a2⟩, a3⟩, a4⟩, a5⟩, a6⟩ := cA
    simp only [colQ, colB, Bool.and_eq_true, beq_iff_eq, Bool.not_eq_true'] at cQ
    obtain ⟨⟨⟨z1, z2⟩, z3⟩, z4⟩ := cQ
    iterate 28 (first | (k_unfold; (try dsimp only)) | (k_end; wrow_close) | walk1 | (dsimp only; walk1) | (leave1; walk_say "STEP leave1"; try dsimp only) | fail "no step")
    refine fold_q ?_
    intro qua hqua
    refine (hsv_ct (h := mF k) (s := eF share) (v := eF value) c1 a1 a2 a3 a4 a5 a6).use (by k_asm) (by k_asm) (by k_asm) (by k_asm) (by k_asm) rfl (by ktr_room) (by ktr_units) ?_
    rintro r news' h' tk' ⟨q, w1, w2, w3, rfl, hq, rfl⟩ F5 N5
    refine hqua _ _ ?_
    dsimp only
    generalize hsvV ((hi (mF k)).fmod 6) (eF value) (pF (eF share) (eF value)) (qF (mF k) (eF share) (eF value)) (tF (mF k) (eF share) (eF value)) = col at *
    k_steps
    refine fold_q ?_
    intro qub hqub
    refine (rgb_ct z1 z2 z3).use (by k_asm) (by k_asm) (by k_asm) (by k_asm) (by k_asm) rfl (by ktr_room) (by ktr_units) ?_
    rintro r news' h' tk' ⟨q', H, S, w4, w5, w6, rfl, hq', rfl⟩ F6 N6
    refine hqub _ _ ?_
    dsimp only
    k_steps
    all_goals
      have hlen : c.1.length < 8 := by
        have e := StrsAre.length hP
        rw [List.length_map] at e
        omega
      have e1 : q ≠ l := Nat.ne_of_gt (hq _ (.head _))
      have e2 : q' ≠ l := Nat.ne_of_gt (hq' _ (.tail _ (.head _)))
      have e3 : ∀ p ∈ news ++ own, p.1 ≠ l := fun p hp => by
        rcases List.mem_append.mp hp with hp | hp
        · exact Nat.ne_of_lt (l1 p hp)
        · exact hoff p hp l (.head _)
      refine append_K (by assumption) (by assumption) (Upd.tail e2 (Upd.tail e1 (Upd.head e3))) ?_ (by rw [List.size_toArray, sizeLine_eq]; omega)
      intro h'' F7 N7
      k_steps
      rw [List.push_toArray] at N7
      have hin : ∀ (x y : Addr × Obj) (v : Value) (n : Nat), ∀ p ∈ (fun c : List Value × Nat => (l, listOf c.1.toArray c.2) :: news) (c.1 ++ [v], n), p ∈ x :: y :: (l, listOf (c.1 ++ [v]).toArray n) :: (news ++ own) := fun x y v n p hp => by
        rcases List.mem_cons.mp hp with rfl | hp
        · exact .tail _ (.tail _ (.head _))
        · exact .tail _ (.tail _ (.tail _ (List.mem_append.mpr (.inl hp))))
      refine kst_end _ (by assumption) N7 (hin _ _ _ _) ?g2 (by rfl) trivial (List.forall_mem_nil _) ?g3 ?g4
      case g2 =>
        intro p hp
        exact .tail _ (.tail _ (.tail _ (List.mem_append.mpr (.inr hp))))
      case g3 =>
        intro z hz _ hs
        have n1 : z ≠ Str.ofString "red" := by rintro rfl; exact absurd hs (by decide)
        have n2 : z ≠ Str.ofString "green" := by rintro rfl; exact absurd hs (by decide)
        have n3 : z ≠ Str.ofString "blue" := by rintro rfl; exact absurd hs (by decide)
        have n4 : z ≠ Str.ofString "hue" := by rintro rfl; exact absurd hs (by decide)
        have n5 : z ≠ Str.ofString "lightness" := by rintro rfl; exact absurd hs (by decide)
        have n6 : z ≠ Str.ofString "depth" := by rintro rfl; exact absurd hs (by decide)
        simp only [if_neg n1, if_neg n2, if_neg n3, if_neg n4, if_neg n5, if_neg n6, if_neg hz, kstB, hs, Bool.false_eq_true, if_false]
      case g4 =>
        rw [List.map_append, List.map_singleton]
        refine hP.append' ?_
        first
          | ((rename (Float64.cmp col.1 _ == some Ordering.gt) = true => hb); rw [hb] at z4; have e : letter k = Str.ofString "A" := if_pos (of_decide_eq_true z4.symm); rw [e]; exact .cons _ _ .nil)
          | ((rename (Float64.cmp col.1 _ == some Ordering.gt) = false => hb); rw [hb] at z4; have e : letter k = Str.ofString "a" := if_neg (of_decide_eq_false z4.symm); rw [e]; exact .cons _ _ .nil)
  case done =>
    intro c u h tk _ hP F4 N4
    have F4 : Fr g1 L1 h _ := F4
    have N4 : News g1 L1 h ((l, listOf c.1.toArray c.2) :: news) := N4
    clear F2 N2 F3 N3
    dsimp only
    k_steps
    have e : (place + 8 - place).toNat = 8 := by omega
    rw [e] at hP
    exact hret _ _ _ _ ⟨l, c.1, c.2, rfl, l1, hP, rfl⟩ (by assumption) (by assumption)
end Mine
end

section
open PySem PySem.W PySem.Spec PySem.Calls PyProof.Rows PySem.Builtin PySem.Builtin.Str
namespace Mine
/-- the text of these signs -/
noncomputable def T (l : List Nat) : Str := ⟨l.toArray⟩
theorem T_length (l : List Nat) : (T l).length = l.length := by show l.toArray.size = _; simp
theorem T_inj {l r : List Nat} (h : T l = T r) : l = r := by
  have : (T l).cps.toList = (T r).cps.toList := by rw [h]
  simpa [T] using this
theorem T_beq (l r : List Nat) : (T l == T r) = decide (l = r) := by
  by_cases h : l = r
  · subst h; simp
  · have : T l ≠ T r := fun e => h (T_inj e)
    simp [h, this]
theorem item_T {l : List Nat} {i : Int} (h0 : 0 ≤ i) (h1 : i < l.length) : Txt.item (T l) i = T [l.getD i.toNat 0] := by
  rw [item_at h0 (by rw [T_length]; exact h1) rfl]
  simp [T, Array.getD_eq_getD_getElem?, List.getD_eq_getElem?_getD]
theorem item_T_neg {l : List Nat} {i : Int} (h0 : i < 0) (h1 : -(l.length : Int) ≤ i) : Txt.item (T l) i = T [l.getD (i + l.length).toNat 0] := by
  rw [beq_iff_eq.mp (item_closes_neg (x := T l) (j := i + l.length) h0 (by rw [T_length]; exact h1) (by rw [T_length]))]
  simp [T, Array.getD_eq_getD_getElem?, List.getD_eq_getElem?_getD]
theorem slice_T_from {l : List Nat} {n : Nat} (h : n ≤ l.length) : Txt.slice (T l) (some (n : Int)) none = T (l.drop n) := by
  rw [slice_from_eq (b := (l.length : Int)) (by omega) (by rw [T_length]; omega) (by rw [T_length])]
  simp only [T, Int.toNat_natCast]
  rw [List.take_of_length_le]
  rw [List.length_drop]; omega
theorem slice_T_none (l : List Nat) : Txt.slice (T l) none none = T l := by
  unfold Txt.slice
  rw [if_pos]
  rw [T_length]
  simp [strSliceIndices, sliceRange]
  split <;> omega
theorem slice_T_to {l : List Nat} {k : Nat} (h1 : 1 ≤ k) (h : k ≤ l.length) : Txt.slice (T l) none (some (-(k : Int))) = T (l.take (l.length - k)) := by
  have e : Txt.slice (T l) none (some (-(k : Int))) = Txt.slice (T l) none (some ((l.length - k : Nat) : Int)) := by
    unfold Txt.slice
    have : strSliceIndices none (some (-(k : Int))) 1 (T l).length = strSliceIndices none (some ((l.length - k : Nat) : Int)) 1 (T l).length := by
      rw [T_length]
      have a1 : -(k : Int) < 0 := by omega
      have a2 : ¬ (((l.length - k : Nat) : Int) < 0) := by omega
      have a3 : (1 : Int) > 0 := by decide
      simp only [strSliceIndices, a1, a2, a3, if_true, if_false]
      congr 1
      omega
    rw [this]
  rw [e, beq_iff_eq.mp (slice_closes_to (x := T l) (j := ((l.length - k : Nat) : Int)) ⟨by omega, by simp [T]⟩)]
  simp [T]

/-- what a step of the table costs: another size of the letter, one -/
noncomputable def cst (x y : Nat) : Int := if x = y then 0 else 1
noncomputable def big : Int := 9223372036854775807
/-- one row of the table: the letters of a, the row above; the row, the last result, the least -/
noncomputable def rowStep (c : Nat) : List Nat → List Int → Int → Int → Int → List Int × Int × Int
  | x :: xs, y :: ys, d, r, m =>
    let r' := min (min r y + 2) (d + cst c x)
    let R := rowStep c xs ys y r' (if r' < m then r' else m)
    (r' :: R.1, R.2)
  | _, _, _, r, m => ([], r, m)
noncomputable def levRows (a : List Nat) (mx : Int) : List Nat → List Int → Int → Int → Int
  | [], _, _, r => r
  | c :: cs, row, i, _ =>
    let R := rowStep c a row (i * 2) (i * 2) big
    if R.2.2 > mx then mx + 1 else levRows a mx cs R.1 (i + 1) R.2.1
noncomputable def trim : List Nat → List Nat → List Nat × List Nat
  | x :: xs, y :: ys => if x = y then trim xs ys else (x :: xs, y :: ys)
  | l, r => (l, r)
noncomputable def row0 (n : Nat) : List Int := (List.range n).map fun (i : Nat) => 2 * ((i : Int) + 1)
noncomputable def levP (a b : List Nat) (mx : Int) : Int :=
  if a = b then 0 else
  let p := trim a b
  let q := trim p.1.reverse p.2.reverse
  levRows q.1.reverse mx q.2.reverse (row0 q.1.length) 0 0
theorem trim_drop : ∀ (n : Nat) (a b : List Nat), (∀ i, i < n → a[i]? = b[i]?) → n < a.length → n < b.length → a[n]? ≠ b[n]? → trim a b = (a.drop n, b.drop n)
  | 0, x :: xs, y :: ys, _, _, _, h => by
    have : x ≠ y := fun e => h (by simp [e])
    simp [trim, this]
  | n + 1, x :: xs, y :: ys, e, h1, h2, h => by
    have exy : x = y := by simpa using e 0 (Nat.succ_pos _)
    have := trim_drop n xs ys (fun i hi => by simpa using e (i + 1) (Nat.succ_lt_succ hi)) (by simpa using h1) (by simpa using h2) (by simpa using h)
    simp [trim, exy, this]
  | _, [], _, _, h, _, _ => absurd h (Nat.not_lt_zero _)
  | _, _ :: _, [], _, _, h, _ => absurd h (Nat.not_lt_zero _)
/-- the word of a place of the wheel -/
noncomputable def sign (m : Nat) : Nat := if (m + 4) % 16 < 8 then 65 else 97
noncomputable def word (p : Nat) : List Nat := (List.range 8).map fun i => sign (p + i)
noncomputable def away (p q : Nat) : Nat := min ((q + 16 - p) % 16) ((p + 16 - q) % 16)
noncomputable def levOk : Bool := (List.range 16).all fun p => (List.range 16).all fun q => levP (word q) (word p) (away p q) == (away p q : Int)
theorem levOk_all : levOk = true := by decide +kernel
end Mine
end

section
open PySem PySem.W PySem.Spec PySem.Calls PyProof.Rows
namespace Mine
theorem T_A : T [65] = Str.ofString "A" := by decide +kernel
theorem T_a : T [97] = Str.ofString "a" := by decide +kernel
theorem sub_ct {w : World} {x y : Nat} {t1 t2 : Tok} {news : List (Addr × Obj)} (hx : x = 65 ∨ x = 97) (hy : y = 65 ∨ y = 97) :
    Ct w 77 [.str (T [x]) t1, .str (T [y]) t2] news 1 8
      (fun r news' => ∃ t, r = .int (cst x y) t ∧ news' = news) := by
  unfold Ct
  k_fill
  w_top off
  intro dp un gd cn cs a' ccd cl outer A₀ base h₀ L m s Q E p loose mean mg mb B F X N T hk hd hu hret
  rcases hx with rfl | rfl <;> rcases hy with rfl | rfl <;> simp only [T_A, T_a] <;> refine wpAny_call ?_
  all_goals
    (k_dflt cell_enter)
    k_steps
    exact hret _ _ _ _ ⟨_, rfl, rfl⟩ (by assumption) (by assumption)
end Mine
end

section
open PySem PySem.W PySem.Spec PySem.Calls PyProof.Rows
namespace Mine
theorem getD_ne {a b : List Nat} {n : Nat} (h1 : n < a.length) (h2 : n < b.length) (h : a.getD n 0 ≠ b.getD n 0) : a[n]? ≠ b[n]? := by
  intro e; apply h; simp [List.getD_eq_getElem?_getD, e]
theorem getD_eq {a b : List Nat} {n : Nat} (h1 : n < a.length) (h2 : n < b.length) (h : a.getD n 0 = b.getD n 0) : a[n]? = b[n]? := by
  simpa [List.getD_eq_getElem?_getD, List.getElem?_eq_getElem h1, List.getElem?_eq_getElem h2] using h
theorem rev_at {x : List Nat} {len k : Nat} (hx : x.length = len) (hk : k < len) : x.reverse[k]? = some (x.getD ((-(k : Int) - 1) + (x.length : Int)).toNat 0) := by
  have e : ((-(k : Int) - 1) + (x.length : Int)).toNat = x.length - 1 - k := by omega
  rw [e, List.getElem?_reverse (by omega), List.getD_eq_getElem?_getD, List.getElem?_eq_getElem (by omega)]
  rfl
theorem suf_item {x y : List Nat} {len k : Nat} (hx : x.length = len) (hy : y.length = len) (hk : k < len) : (Txt.item (T x) (-(k : Int) - 1) == Txt.item (T y) (-(k : Int) - 1)) = decide (x.reverse[k]? = y.reverse[k]?) := by
  rw [item_T_neg (l := x) (by omega) (by omega), item_T_neg (l := y) (by omega) (by omega), T_beq, rev_at hx hk, rev_at hy hk]
  simp
theorem suf_lt {x y : List Nat} {len k : Nat} (hx : x.length = len) (hy : y.length = len) (hk : k < len) (h0 : x[0]? ≠ y[0]?) (h : x.reverse[k]? = y.reverse[k]?) : k + 1 < len := by
  refine Nat.lt_of_le_of_ne hk fun e => h0 ?_
  have e1 : x.length - 1 - k = 0 := by omega
  have e2 : y.length - 1 - k = 0 := by omega
  rw [List.getElem?_reverse (by omega), List.getElem?_reverse (by omega), e1, e2] at h
  exact h
theorem upto {x y : List Nat} {k : Nat} (h : ∀ i, i < k → x[i]? = y[i]?) (hk : x[k]? = y[k]?) : ∀ i, i < k + 1 → x[i]? = y[i]? := fun i hi => by
  by_cases h10 : i < k
  · exact h i h10
  · obtain rfl : i = k := by omega
    exact hk
theorem ints_of_get : ∀ (vs : List Value) (ns : List Int), vs.length = ns.length → (∀ (j : Nat) (v : Value), vs[j]? = some v → ∃ t, v = .int (ns.getD j 0) t) → IntsAre vs ns
  | [], [], _, _ => .nil
  | v :: r, n :: q, e, h => by
    obtain ⟨t, rfl⟩ := h 0 v rfl
    exact .cons _ _ (ints_of_get r q (by simpa using e) fun j v hj => by simpa using h (j + 1) v (by simpa using hj))
  | [], _ :: _, e, _ => by cases e
  | _ :: _, [], e, _ => by cases e
/-- list(range(a, b, c)) -/
theorem list_step {prog : Program} {w : World} {A : Around} {E : Value → Shared → Prop} {s : Shared} {Q : Value → Shared → Prop} {h₀ : Heap} {L : Addr} {m : Str → Option Value} {news : List (Addr × Obj)} {r : Addr} {a b c : Int} {t u v : Tok} {n : Nat} (hh : A.handled = none) (F : Fr h₀ L s.heap m) (N : News h₀ L s.heap news)
    (hr : IsRange s.heap r a b c t u v) (hsmall : Builtin.Range.small a b c = true) (hn : Builtin.Range.rangeSize a b c = (n : Int)) (hlen : n ≤ 2 ^ 24)
    (h : ∀ (l : Nat) (vs : List Value) (k : Nat) h' tk, Fr h₀ L h' m → News h₀ L h' ((l, listOf vs.toArray k) :: news) → (∀ p ∈ news, p.1 < l) → IntsAre vs ((List.range n).map fun (i : Nat) => a + (i : Int) * c) → Q (.ref l) { s with heap := h', toks := tk }) :
    wpAny (model prog w) A (call (.type "list") [.ref r]) Q E s := by
  refine call_list_range hh hr hsmall hn hlen fun h' tk acc' c' hk hS' hacc => ?_
  refine h _ acc'.toList c' h' tk (F.keeps hk) (fun p hp => ?_) (fun p hp => Heap.lt_size (N p hp).1) (ints_of_get _ _ (by simp [hacc.1]) fun j v hj => ?_)
  · rcases List.mem_cons.mp hp with rfl | hp
    · refine ⟨by simpa using hS', Nat.ne_of_gt F.ns.lt, ?_⟩
      cases e : h₀.get? s.heap.objs.size with
      | none => rfl
      | some o => exact absurd (Heap.lt_size (F.keep _ _ e)) (Nat.lt_irrefl _)
    · exact ⟨hk _ _ (N p hp).1, (N p hp).2⟩
  · have hj' : acc'[j]? = some v := by simpa using hj
    obtain ⟨t, rfl⟩ := hacc.2 j v hj'
    have hjn : j < n := by
      have := (Array.getElem?_eq_some_iff.mp hj').1
      rw [hacc.1] at this; exact this
    exact ⟨t, by simp [List.getD_eq_getElem?_getD, hjn]⟩
/-- a while's turn that has turned one name, an int -/
theorem ksw_next {h₀ h' : Heap} {L : Addr} {s : Shared} {news : List (Addr × Obj)} {m₀ m₁ : Str → Option Value} {P : Nat × Tok → Prop} {μ : Nat × Tok → Nat} {c : Nat × Tok} {tk : Nat} {nm : Str} {g : Nat → Int} (k : Nat) {i : Int} {t : Tok}
    (F : Fr h₀ L h' (fun y => if y = nm then some (.int i t) else m₁ y)) (N : News h₀ L h' news) (hi : i = g k) (hr : ∀ z, z ≠ nm → m₁ z = m₀ z) (hp : P (k, t)) (hm : μ (k, t) < μ c) :
    KswEnd h₀ L s (fun _ => news) (fun c => [(nm, Value.int (g c.1) c.2)]) (fun _ => True) [] m₀ P μ c { s with heap := h', toks := tk } := by
  subst hi
  refine ksw_end (k, t) F N (fun p hp => hp) trivial (List.forall_mem_cons.mpr ⟨by simp, List.forall_mem_nil _⟩) (fun z hz _ => ?_) hp hm
  have n1 : z ≠ nm := hz _ (.head _)
  simp only [if_neg n1]
  exact hr z n1
theorem row_range {n : Nat} {b : Int} (h8 : n ≤ 8) (hb : b = 2 * ((n : Int) + 1)) : Builtin.Range.small 2 b 2 = true ∧ Builtin.Range.rangeSize 2 b 2 = (n : Int) := by
  subst hb
  have h : ∀ k : Fin 9, Builtin.Range.small 2 (2 * ((k.1 : Int) + 1)) 2 = true ∧ Builtin.Range.rangeSize 2 (2 * ((k.1 : Int) + 1)) 2 = (k.1 : Int) := by decide +kernel
  exact h ⟨n, Nat.lt_succ_of_le h8⟩
/-- `a[:post or None]` -/
theorem suf_eval {w : World} {A : Around} {env : Env} {s : Shared} {Q E : Value → Shared → Prop} {nm ps : Str} {p1 p2 p3 p4 p5 p6 : Pos} {x y : Str} {v : Int} {tx tv : Tok} {h₀ : Heap} {L : Addr} {m : Str → Option Value} {news : List (Addr × Obj)}
    (hA : ∀ Q' : Value → Shared → Prop, Q' (.str x tx) s → wpAny (model PySem.Challenge.rw_pe0151_01.row.prog w) A (eval (.Name nm p1) env) Q' E s)
    (hP : ∀ Q' : Value → Shared → Prop, Q' (.int v tv) s → wpAny (model PySem.Challenge.rw_pe0151_01.row.prog w) A (eval (.Name ps p2) env) Q' E s)
    (F : Fr h₀ L s.heap m) (N : News h₀ L s.heap news)
    (hy : Txt.slice x none (if v = 0 then none else some v) = y) (hl : x.length < 100)
    (ret : ∀ h' t k, Fr h₀ L h' m → News h₀ L h' news → Q (.str y t) { s with heap := h', toks := k }) :
    wpAny (model PySem.Challenge.rw_pe0151_01.row.prog w) A (eval (Expr.Subscript (.Name nm p1) (.Slice none (some (.BoolOp .Or [.Name ps p2, .Constant .none 0 p3] p4)) none p5) p6) env) Q E s := by
  refine Subscript_ ?_
  refine hA _ ?_
  iterate 4 walk1
  refine hP _ ?_
  iterate 2 walk1
  · rename v ≠ 0 => h0
    walk1
    refine slice_strN_ns_len (s := ⟨_, _, _, _, _⟩) F N ?_
    intro h' t k F' N' _
    rw [if_neg h0] at hy
    rw [hy]
    exact ret h' t k F' N'
  · rename v = 0 => h0
    iterate 3 walk1
    refine slice_strN_nn_len (s := ⟨_, _, _, _, _⟩) F N ?_
    intro h' t k F' N' _
    rw [if_pos h0] at hy
    rw [hy]
    exact ret h' t k F' N'
theorem suf_slice {x : List Nat} {len k : Nat} (hx : x.length = len) (hk : k ≤ len) : Txt.slice (T x) none (if -(k : Int) = 0 then none else some (-(k : Int))) = T (x.take (len - k)) := by
  by_cases h : k = 0
  · subst h
    rw [if_pos (by simp), slice_T_none, List.take_of_length_le (by rw [hx]; exact Nat.le_refl _)]
  · rw [if_neg (by omega), slice_T_to (by omega) (by omega), hx]
theorem suf_pos {x : List Nat} {len k : Nat} (hx : x.length = len) : (T (x.take (len - k))).length = len - k := by
  rw [T_length, List.length_take, hx, Nat.min_eq_left (Nat.sub_le _ _)]
theorem fr_named' {h₀ h : Heap} {L : Addr} {m : Str → Option Value} (F : Fr h₀ L h m) (ps : List (Str × Value)) (hp : ∀ p ∈ ps, m p.1 = some p.2) : ∃ m', (∀ z, kstB m' ps z = m z) ∧ Fr h₀ L h (kstB m' ps) := by
  have e : kstB m ps = m := funext fun z => kstB_eq hp fun _ => rfl
  exact ⟨m, fun z => by rw [e], by rw [e]; exact F⟩
theorem in_next {bc x : Nat} {ya : List Nat} {w row : List Int} {d r m y r' m' : Int} {R : List Int × Int × Int} {p p' n : Nat} {dn : List Int} (hp : p < n) (hpp : p' = p) (hya : ya.length = n) (hw : w.length = n) (hdn : dn.length = p) (er : row = dn ++ w.drop p) (hx : x = ya.getD p 0) (hy : y = row.getD p' 0)
    (hr' : r' = if d + cst bc x < (if y < r then y else r) + 2 then d + cst bc x else (if y < r then y else r) + 2) (hm' : m' = if r' < m then r' else m)
    (hs : R = (dn ++ (rowStep bc (ya.drop p) (w.drop p) d r m).1, (rowStep bc (ya.drop p) (w.drop p) d r m).2)) :
    ∃ done, done.length = p + 1 ∧ row.set p' r' = done ++ w.drop (p + 1) ∧
      R = (done ++ (rowStep bc (ya.drop (p + 1)) (w.drop (p + 1)) y r' m').1, (rowStep bc (ya.drop (p + 1)) (w.drop (p + 1)) y r' m').2) := by
  rw [hpp] at *
  have ea : ya.drop p = x :: ya.drop (p + 1) := by
    rw [List.drop_eq_getElem_cons (by omega), hx, List.getD_eq_getElem?_getD, List.getElem?_eq_getElem (by omega)]; rfl
  have ew : w.drop p = y :: w.drop (p + 1) := by
    rw [hy, er, List.drop_eq_getElem_cons (by omega), List.getD_eq_getElem?_getD, List.getElem?_append_right (by omega), hdn, Nat.sub_self]; rfl
  have em : min (min r y + 2) (d + cst bc x) = r' := by
    rw [hr']; simp only [Int.min_def]
    generalize cst bc x = z
    repeat' split
    all_goals omega
  refine ⟨dn ++ [r'], by simp [hdn], ?_, ?_⟩
  · rw [er, ew, ← hdn]; simp [List.set_append_right]
  · rw [hs, ea, ew]
    simp only [rowStep, em, ← hm', List.append_assoc, List.cons_append, List.nil_append]
/-- the table between two letters of b -/
structure OutS where
  vs : List Value
  row : List Int
  nn : Nat
  r : Int
  tr : Tok
/-- the table within a row -/
structure InS where
  vs : List Value
  row : List Int
  nn : Nat
  d : Int
  td : Tok
  r : Int
  tr : Tok
  m : Int
  tm : Tok
theorem lev_ct {w : World} {la lb : List Nat} {mx : Int} {t1 t2 t3 : Tok} {news : List (Addr × Obj)} (ha : la.length = 8) (hb : lb.length = 8) (hA : ∀ x ∈ la, x = 65 ∨ x = 97) (hB : ∀ x ∈ lb, x = 65 ∨ x = 97) (hm : 0 ≤ mx) (hm' : mx ≤ 100) :
    Ct w 84 [.str (T la) t1, .str (T lb) t2, .int mx t3] news 3 20
      (fun r news' => ∃ t, r = .int (levP la lb mx) t ∧ news' = news) := by
  unfold Ct
  k_fill
  w_top off
  intro dp un gd cn cs a' ccd cl outer A₀ base h₀ L m s Q E p loose mean mg mb B F X N T1 hk hd hu hret
  have hla : (T la).length = 8 := by rw [T_length]; exact ha
  have hlb : (T lb).length = 8 := by rw [T_length]; exact hb
  refine wpAny_call ?_
  (k_dflt cell_enter)
  iterate 9 (first | (k_unfold; (try dsimp only)) | (k_end; wrow_close) | walk1 | (dsimp only; walk1) | (leave1; walk_say "STEP leave1"; try dsimp only) | fail "no step")
  · rename (T la == T lb) = true => heq
    rw [T_beq, decide_eq_true_eq] at heq
    have e : levP la lb mx = 0 := by unfold levP; rw [if_pos heq]
    rw [e] at hret
    k_steps
    exact hret _ _ _ _ ⟨_, rfl, rfl⟩ (by assumption) (by assumption)
  iterate 6 (first | (k_unfold; (try dsimp only)) | (k_end; wrow_close) | walk1 | (dsimp only; walk1) | (leave1; walk_say "STEP leave1"; try dsimp only) | fail "no step")
  rename_i g1 L1 h1 FG B1 X1 T2 hne h2 F2 N2
  rw [T_beq, decide_eq_false_iff_not] at hne
  obtain ⟨tp, m1, F2n⟩ : ∃ tp m1, Fr g1 L1 h2 (kstB m1 [(Str.ofString "a", .str (T la) t1), (Str.ofString "b", .str (T lb) t2), (Str.ofString "max_cost", .int mx t3), (Str.ofString "pre", .int 0 tp)]) :=
    ⟨_, fr_named F2 _ (List.forall_mem_cons.mpr ⟨rfl, List.forall_mem_cons.mpr ⟨rfl, List.forall_mem_cons.mpr ⟨rfl, List.forall_mem_cons.mpr ⟨rfl, List.forall_mem_nil _⟩⟩⟩⟩)⟩
  clear F2
  refine wpAny_mono (Q := fun f s₂ => f = .next ∧ ∃ (n : Nat) (m' : Str → Option Value) (t : Tok) (h : Heap) (tk : Nat), s₂ = { s with heap := h, toks := tk } ∧ Fr g1 L1 h (kstB m' [(Str.ofString "a", .str (T la) t1), (Str.ofString "b", .str (T lb) t2), (Str.ofString "max_cost", .int mx t3), (Str.ofString "pre", .int (n : Int) t)]) ∧ News g1 L1 h news ∧ n < 8 ∧ (∀ i, i < n → la[i]? = lb[i]?) ∧ la[n]? ≠ lb[n]?) (ksw_while (σ := Nat × Tok) (fun _ => news) (fun c => [(Str.ofString "pre", Value.int (c.1 : Int) c.2)]) (fun _ => True) [] (fun c => c.1 ≤ 8 ∧ ∀ i, i < c.1 → la[i]? = lb[i]?) (fun c => 8 - c.1) (0, tp)
    F2n N2 trivial (List.forall_mem_cons.mpr ⟨by rfl, List.forall_mem_nil _⟩) ⟨by omega, fun i hi => absurd hi (Nat.not_lt_zero _)⟩ ?turn (by passes_own)) ?rest (fun _ _ x => x)
  case turn =>
    intro c u h tk _ hP F3 N3
    clear F2n N2
    obtain ⟨hc, hPr⟩ := hP
    dsimp only [kstB] at F3
    (with_reducible show wpAny _ _ _ _ _ _)
    k_fold
    have whole : ¬ 8 ≤ c.1 := fun h8 => hne (by
      apply List.ext_getElem?
      intro i
      by_cases hi : i < 8
      · exact hPr i (by omega)
      · rw [List.getElem?_eq_none (by omega), List.getElem?_eq_none (by omega)])
    iterate 14 (first | (k_unfold; (try dsimp only)) | (k_end; wrow_close) | walk1 | (dsimp only; walk1) | (leave1; walk_say "STEP leave1"; try dsimp only) | fail "no step")
    · iterate 14 (first | (k_unfold; (try dsimp only)) | (k_end; wrow_close) | walk1 | (dsimp only; walk1) | (leave1; walk_say "STEP leave1"; try dsimp only) | fail "no step")
      · have h8 : c.1 < 8 := by omega
        iterate 12 (first | (k_unfold; (try dsimp only)) | (k_end; wrow_close) | walk1 | (dsimp only; walk1) | (leave1; walk_say "STEP leave1"; try dsimp only) | fail "no step")
        · rename (Txt.item (T la) _ == Txt.item (T lb) _) = true => hi
          rw [item_T (by omega) (by omega), item_T (by omega) (by omega), T_beq, decide_eq_true_eq] at hi
          k_steps
          refine ksw_next (g := fun k => (k : Int)) (c.1 + 1) (by assumption) (by assumption) (by show (c.1 : Int) + 1 = ((c.1 + 1 : Nat) : Int); omega) (fun z hz => ?_) ⟨by show c.1 + 1 ≤ 8; omega, upto hPr (getD_eq (by omega) (by omega) (by simpa using hi))⟩ (by show 8 - (c.1 + 1) < 8 - c.1; omega)
          simp only [kstB, if_neg hz, List.contains_nil, Bool.false_eq_true, if_false]
        · rename (Txt.item (T la) _ == Txt.item (T lb) _) = false => hi
          rw [item_T (by omega) (by omega), item_T (by omega) (by omega), T_beq, decide_eq_false_iff_not] at hi
          k_unfold
          rw [if_neg (by decide)]
          obtain ⟨m', F9⟩ := fr_named (h := _) (by assumption) [(Str.ofString "a", .str (T la) t1), (Str.ofString "b", .str (T lb) t2), (Str.ofString "max_cost", .int mx t3), (Str.ofString "pre", .int (c.1 : Int) c.2)] (List.forall_mem_cons.mpr ⟨rfl, List.forall_mem_cons.mpr ⟨rfl, List.forall_mem_cons.mpr ⟨rfl, List.forall_mem_cons.mpr ⟨rfl, List.forall_mem_nil _⟩⟩⟩⟩)
          exact ⟨by first | exact rfl | exact trivial, c.1, m', c.2, _, _, rfl, F9, by assumption, h8, hPr, getD_ne (by omega) (by omega) (by simpa using hi)⟩
      · exfalso; omega
    · exfalso; omega
  case rest =>
    rintro f s₂ ⟨rfl, n, m2, tq, h3, tk3, rfl, F3, N3, hn8, hpre, hdif⟩
    clear F2n N2
    dsimp only [kstB] at F3
    have hsa := slice_T_from (l := la) (n := n) (by omega)
    have hsb := slice_T_from (l := lb) (n := n) (by omega)
    (repeat ((fail_if_success (focus (with_reducible show wpAny _ _ (exec (Stmt.While _ _ _ _) _) _ _ _))); (first | (k_unfold; (try dsimp only)) | (k_end; wrow_close) | walk1 | (dsimp only; walk1) | (leave1; walk_say "STEP leave1"; try dsimp only) | fail "no step")))
    rename_i h4 ta k4 _ h5 h6 tb k5 _ h7 h8 F4 N4
    simp only [hsa, hsb] at F4
    obtain ⟨tp2, m3, F5⟩ : ∃ tp m1, Fr g1 L1 h8 (kstB m1 [(Str.ofString "a", .str (T (la.drop n)) ta), (Str.ofString "b", .str (T (lb.drop n)) tb), (Str.ofString "max_cost", .int mx t3), (Str.ofString "post", .int 0 tp)]) :=
      ⟨_, fr_named F4 _ (List.forall_mem_cons.mpr ⟨rfl, List.forall_mem_cons.mpr ⟨rfl, List.forall_mem_cons.mpr ⟨rfl, List.forall_mem_cons.mpr ⟨rfl, List.forall_mem_nil _⟩⟩⟩⟩)⟩
    clear F4
    have etrim : trim la lb = (la.drop n, lb.drop n) := trim_drop n la lb hpre (by omega) (by omega) hdif
    have hd0 : (la.drop n)[0]? ≠ (lb.drop n)[0]? := by simpa using hdif
    have hA1 : ∀ x ∈ la.drop n, x = 65 ∨ x = 97 := fun x hx => hA x (List.mem_of_mem_drop hx)
    have hB1 : ∀ x ∈ lb.drop n, x = 65 ∨ x = 97 := fun x hx => hB x (List.mem_of_mem_drop hx)
    obtain ⟨len, hlen⟩ : ∃ len, len = 8 - n := ⟨_, rfl⟩
    have hxa : (la.drop n).length = len := by rw [List.length_drop, ha, hlen]
    have hxb : (lb.drop n).length = len := by rw [List.length_drop, hb, hlen]
    have hlen1 : 1 ≤ len := by omega
    have hlen8 : len ≤ 8 := by omega
    clear hsa hsb
    generalize la.drop n = xa at *
    generalize lb.drop n = xb at *
    have hlxa : (T xa).length = len := by rw [T_length]; exact hxa
    have hlxb : (T xb).length = len := by rw [T_length]; exact hxb
    refine wpAny_mono (Q := fun f s₂ => f = .next ∧ ∃ (k : Nat) (m' : Str → Option Value) (t : Tok) (h : Heap) (tk : Nat), s₂ = { s with heap := h, toks := tk } ∧ Fr g1 L1 h (kstB m' [(Str.ofString "a", .str (T xa) ta), (Str.ofString "b", .str (T xb) tb), (Str.ofString "max_cost", .int mx t3), (Str.ofString "post", .int (-(k : Int)) t)]) ∧ News g1 L1 h news ∧ k < len ∧ (∀ i, i < k → xa.reverse[i]? = xb.reverse[i]?) ∧ xa.reverse[k]? ≠ xb.reverse[k]?) (ksw_while (σ := Nat × Tok) (fun _ => news) (fun c => [(Str.ofString "post", Value.int (-(c.1 : Int)) c.2)]) (fun _ => True) [] (fun c => c.1 < len ∧ ∀ i, i < c.1 → xa.reverse[i]? = xb.reverse[i]?) (fun c => 8 - c.1) (0, tp2)
      F5 N4 trivial (List.forall_mem_cons.mpr ⟨by rfl, List.forall_mem_nil _⟩) ⟨by omega, fun i hi => absurd hi (Nat.not_lt_zero _)⟩ ?turn2 (by passes_own)) ?rest2 (fun _ _ x => x)
    case turn2 =>
      intro c u h tk _ hP F6 N6
      clear F5 N4
      obtain ⟨hc, hPr⟩ := hP
      dsimp only [kstB] at F6
      (with_reducible show wpAny _ _ _ _ _ _)
      k_fold
      have hpa := suf_pos (k := c.1) hxa
      have hpb := suf_pos (k := c.1) hxb
      iterate 2 (first | (k_unfold; (try dsimp only)) | (k_end; wrow_close) | walk1 | (dsimp only; walk1) | (leave1; walk_say "STEP leave1"; try dsimp only) | fail "no step")
      refine suf_eval (y := T (xa.take (len - c.1))) (tx := ta) (v := -(c.1 : Int)) (tv := c.2) (fun _ hq => ?_) (fun _ hq => ?_) F6 N6 (suf_slice hxa (by omega)) (by omega) ?_
      · (first | (k_unfold; (try dsimp only)) | (k_end; wrow_close) | walk1 | (dsimp only; walk1) | (leave1; walk_say "STEP leave1"; try dsimp only) | fail "no step"); exact hq
      · (first | (k_unfold; (try dsimp only)) | (k_end; wrow_close) | walk1 | (dsimp only; walk1) | (leave1; walk_say "STEP leave1"; try dsimp only) | fail "no step"); exact hq
      intro h12 t12 k12 F12 N12
      clear F6 N6
      dsimp only
      (first | (k_unfold; (try dsimp only)) | (k_end; wrow_close) | walk1 | (dsimp only; walk1) | (leave1; walk_say "STEP leave1"; try dsimp only) | fail "no step")
      rw [if_pos (by simp [hpa]; omega)]
      iterate 2 (first | (k_unfold; (try dsimp only)) | (k_end; wrow_close) | walk1 | (dsimp only; walk1) | (leave1; walk_say "STEP leave1"; try dsimp only) | fail "no step")
      refine suf_eval (y := T (xb.take (len - c.1))) (tx := tb) (v := -(c.1 : Int)) (tv := c.2) (fun _ hq => ?_) (fun _ hq => ?_) F12 N12 (suf_slice hxb (by omega)) (by omega) ?_
      · (first | (k_unfold; (try dsimp only)) | (k_end; wrow_close) | walk1 | (dsimp only; walk1) | (leave1; walk_say "STEP leave1"; try dsimp only) | fail "no step"); exact hq
      · (first | (k_unfold; (try dsimp only)) | (k_end; wrow_close) | walk1 | (dsimp only; walk1) | (leave1; walk_say "STEP leave1"; try dsimp only) | fail "no step"); exact hq
      intro h13 t13 k13 F13 N13
      clear F12 N12
      dsimp only
      (first | (k_unfold; (try dsimp only)) | (k_end; wrow_close) | walk1 | (dsimp only; walk1) | (leave1; walk_say "STEP leave1"; try dsimp only) | fail "no step")
      rw [if_pos (by simp [hpb]; omega)]
      iterate 19 (first | (k_unfold; (try dsimp only)) | (k_end; wrow_close) | walk1 | (dsimp only; walk1) | (leave1; walk_say "STEP leave1"; try dsimp only) | fail "no step")
      · rename (Txt.item (T xa) _ == Txt.item (T xb) _) = true => hi
        rw [suf_item hxa hxb hc, decide_eq_true_eq] at hi
        have hc1 : c.1 + 1 < len := suf_lt hxa hxb hc hd0 hi
        clear hpa hpb
        iterate 6 (try clear hfact)
        dsimp only
        k_steps
        refine ksw_next (g := fun k => -(k : Int)) (c.1 + 1) (by assumption) (by assumption) (by show -(c.1 : Int) - 1 = -((c.1 + 1 : Nat) : Int); omega) (fun z hz => ?_) ⟨hc1, upto hPr hi⟩ (by show 8 - (c.1 + 1) < 8 - c.1; omega)
        simp only [kstB, if_neg hz, List.contains_nil, Bool.false_eq_true, if_false]
      · rename (Txt.item (T xa) _ == Txt.item (T xb) _) = false => hi
        rw [suf_item hxa hxb hc, decide_eq_false_iff_not] at hi
        k_unfold
        rw [if_neg (by decide)]
        obtain ⟨m', F9⟩ := fr_named (h := _) (by assumption) [(Str.ofString "a", .str (T xa) ta), (Str.ofString "b", .str (T xb) tb), (Str.ofString "max_cost", .int mx t3), (Str.ofString "post", .int (-(c.1 : Int)) c.2)] (List.forall_mem_cons.mpr ⟨rfl, List.forall_mem_cons.mpr ⟨rfl, List.forall_mem_cons.mpr ⟨rfl, List.forall_mem_cons.mpr ⟨rfl, List.forall_mem_nil _⟩⟩⟩⟩)
        exact ⟨by first | exact rfl | exact trivial, c.1, m', c.2, _, _, rfl, F9, by assumption, hc, hPr, hi⟩
    case rest2 =>
      rintro f s₂ ⟨rfl, k, m4, tr, h9, tk9, rfl, F6, N6, hk8, hsuf, hdif2⟩
      clear F5 N4
      dsimp only [kstB] at F6
      iterate 2 (first | (k_unfold; (try dsimp only)) | (k_end; wrow_close) | walk1 | (dsimp only; walk1) | (leave1; walk_say "STEP leave1"; try dsimp only) | fail "no step")
      refine suf_eval (y := T (xa.take (len - k))) (tx := ta) (v := -(k : Int)) (tv := tr) (fun _ hq => ?_) (fun _ hq => ?_) F6 N6 (suf_slice hxa (by omega)) (by omega) ?_
      · (first | (k_unfold; (try dsimp only)) | (k_end; wrow_close) | walk1 | (dsimp only; walk1) | (leave1; walk_say "STEP leave1"; try dsimp only) | fail "no step"); exact hq
      · (first | (k_unfold; (try dsimp only)) | (k_end; wrow_close) | walk1 | (dsimp only; walk1) | (leave1; walk_say "STEP leave1"; try dsimp only) | fail "no step"); exact hq
      intro h10 tc k10 F7 N7
      clear F6 N6
      dsimp only
      iterate 4 (first | (k_unfold; (try dsimp only)) | (k_end; wrow_close) | walk1 | (dsimp only; walk1) | (leave1; walk_say "STEP leave1"; try dsimp only) | fail "no step")
      rename Fr _ _ _ _ => F7
      obtain ⟨m5, F7⟩ := fr_named F7 [(Str.ofString "a", .str (T (xa.take (len - k))) tc), (Str.ofString "b", .str (T xb) tb), (Str.ofString "max_cost", .int mx t3), (Str.ofString "post", .int (-(k : Int)) tr)] (List.forall_mem_cons.mpr ⟨rfl, List.forall_mem_cons.mpr ⟨rfl, List.forall_mem_cons.mpr ⟨rfl, List.forall_mem_cons.mpr ⟨rfl, List.forall_mem_nil _⟩⟩⟩⟩)
      rename News _ _ _ _ => N7
      dsimp only [kstB] at F7
      refine suf_eval (y := T (xb.take (len - k))) (tx := tb) (v := -(k : Int)) (tv := tr) (fun _ hq => ?_) (fun _ hq => ?_) F7 N7 (suf_slice hxb (by omega)) (by omega) ?_
      · (first | (k_unfold; (try dsimp only)) | (k_end; wrow_close) | walk1 | (dsimp only; walk1) | (leave1; walk_say "STEP leave1"; try dsimp only) | fail "no step"); exact hq
      · (first | (k_unfold; (try dsimp only)) | (k_end; wrow_close) | walk1 | (dsimp only; walk1) | (leave1; walk_say "STEP leave1"; try dsimp only) | fail "no step"); exact hq
      intro h11 te k11 F8 N8
      clear F7 N7
      dsimp only
      iterate 1 (first | (k_unfold; (try dsimp only)) | (k_end; wrow_close) | walk1 | (dsimp only; walk1) | (leave1; walk_say "STEP leave1"; try dsimp only) | fail "no step")
      rename Fr _ _ _ _ => F8
      obtain ⟨m6, F8⟩ := fr_named F8 [(Str.ofString "a", .str (T (xa.take (len - k))) tc), (Str.ofString "b", .str (T (xb.take (len - k))) te), (Str.ofString "max_cost", .int mx t3)] (List.forall_mem_cons.mpr ⟨rfl, List.forall_mem_cons.mpr ⟨rfl, List.forall_mem_cons.mpr ⟨rfl, List.forall_mem_nil _⟩⟩⟩)
      rename News _ _ _ _ => N8
      dsimp only [kstB] at F8
      have etrim2 : trim xa.reverse xb.reverse = (xa.reverse.drop k, xb.reverse.drop k) := trim_drop k _ _ hsuf (by rw [List.length_reverse]; omega) (by rw [List.length_reverse]; omega) hdif2
      have elev : levP la lb mx = levRows (xa.take (len - k)) mx (xb.take (len - k)) (row0 (len - k)) 0 0 := by
        unfold levP
        rw [if_neg hne]
        simp only [etrim, etrim2, List.drop_reverse, List.reverse_reverse, hxa, hxb, List.length_reverse, List.length_take]
        rw [Nat.min_eq_left (by omega)]
      rw [elev] at hret
      obtain ⟨n2, hn2⟩ : ∃ n2, n2 = len - k := ⟨_, rfl⟩
      have hya : (xa.take (len - k)).length = n2 := by rw [List.length_take]; omega
      have hyb : (xb.take (len - k)).length = n2 := by rw [List.length_take]; omega
      have hA2 : ∀ x ∈ xa.take (len - k), x = 65 ∨ x = 97 := fun x hx => hA1 x (List.mem_of_mem_take hx)
      have hB2 : ∀ x ∈ xb.take (len - k), x = 65 ∨ x = 97 := fun x hx => hB1 x (List.mem_of_mem_take hx)
      have hn21 : 1 ≤ n2 := by omega
      have hn28 : n2 ≤ 8 := by omega
      clear hdif2 hsuf hdif hpre hd0 etrim etrim2 elev hA hB hA1 hB1 hla hlb hlxa hlxb hk8 hn8 hlen hxa hxb ha hb hne
      generalize xa.take (len - k) = ya at *
      generalize xb.take (len - k) = yb at *
      rw [← hn2] at hret
      clear hn2
      have hlya : (T ya).length = n2 := by rw [T_length]; exact hya
      have hlyb : (T yb).length = n2 := by rw [T_length]; exact hyb
      iterate 8 (try (first | (k_unfold; (try dsimp only)) | (k_end; wrow_close) | walk1 | (dsimp only; walk1) | (leave1; walk_say "STEP leave1"; try dsimp only) | fail "no step"))
      rw [if_pos (by simp [hlya]; omega)]
      iterate 6 (first | (k_unfold; (try dsimp only)) | (k_end; wrow_close) | walk1 | (dsimp only; walk1) | (leave1; walk_say "STEP leave1"; try dsimp only) | fail "no step")
      rw [if_pos (by simp [hlyb]; omega)]
      (repeat ((fail_if_success (focus (with_reducible show wpAny _ _ (pyIter _) _ _ _))); (first | (k_unfold; (try dsimp only)) | (k_end; wrow_close) | walk1 | (dsimp only; walk1) | (leave1; walk_say "STEP leave1"; try dsimp only) | fail "no step")))
      rename_i tk12 _ _ N8' F8' tk13 tk14 tk15 h12 tk16 t11 u11 v11 rg F9 N9 kp
      rw [hlya] at rg
      refine list_step (n := n2) rfl F9 N9 rg (row_range hn28 (by omega)).1 (row_range hn28 (by omega)).2 (by omega) ?_
      intro l vs kk h13 tk17 F10 N10 hl1 hI
      have erow : ((List.range n2).map fun (i : Nat) => (2 : Int) + (i : Int) * 2) = row0 n2 := by
        unfold row0
        apply List.map_congr_left
        intro i _
        omega
      rw [erow] at hI
      clear F9 N9 F8' N8' rg kp erow
      (repeat ((fail_if_success (focus (with_reducible show wpAny _ _ (pyIter _) _ _ _))); (first | (k_unfold; (try dsimp only)) | (k_end; wrow_close) | walk1 | (dsimp only; walk1) | (leave1; walk_say "STEP leave1"; try dsimp only) | fail "no step")))
      rename_i _ _ tk18 h14 h15 F11 N11 h16 tk19 t12 u12 v12 rg F12 N12 kp
      rw [hlyb] at rg
      obtain ⟨tr0, m7, F13⟩ : ∃ tr0 m1, Fr g1 L1 h16 (kstB m1 [(Str.ofString "a", .str (T ya) tc), (Str.ofString "b", .str (T yb) te), (Str.ofString "max_cost", .int mx t3), (Str.ofString "row", .ref l), (Str.ofString "result", .int 0 tr0)]) :=
        ⟨_, fr_named F12 _ (List.forall_mem_cons.mpr ⟨rfl, List.forall_mem_cons.mpr ⟨rfl, List.forall_mem_cons.mpr ⟨rfl, List.forall_mem_cons.mpr ⟨rfl, List.forall_mem_cons.mpr ⟨rfl, List.forall_mem_nil _⟩⟩⟩⟩⟩)⟩
      clear F12 F11 N11
      refine kst_range (n := n2) (σ := OutS) (fun c => (l, listOf c.vs.toArray c.nn) :: news) (fun c => [(Str.ofString "result", Value.int c.r c.tr)]) (fun c => IntsAre c.vs c.row ∧ c.row.length = n2)
        [Str.ofString "bchar", Str.ofString "distance", Str.ofString "minimum", Str.ofString "index", Str.ofString "substitute", Str.ofString "insert_delete"]
        (fun pre c => pre.length ≤ n2 ∧ levRows ya mx yb (row0 n2) 0 0 = levRows ya mx (yb.drop pre.length) c.row (pre.length : Int) c.r) ⟨vs, row0 n2, kk, 0, tr0⟩
        (by rfl) rg (small_one (by omega) (by omega) (by omega) (by omega)) (by rw [rangeSize_nat]; omega) F13 N12 ⟨hI, by simp [row0]⟩ (List.forall_mem_cons.mpr ⟨by rfl, List.forall_mem_nil _⟩) ⟨Nat.zero_le _, rfl⟩ ?turn3 ?done3
      case turn3 =>
        intro c pre k t u h tk own hk' hlt hoff hf hP F14 N14
        replace F14 : Fr g1 L1 h _ := F14
        replace N14 : News g1 L1 h ((l, listOf c.vs.toArray c.nn) :: (news ++ own)) := N14
        clear F13 N12 rg kp
        obtain ⟨hI2, hrl⟩ := hf
        obtain ⟨hpl, hlev⟩ := hP
        dsimp only [kstB] at F14
        (with_reducible show wpAny _ _ _ _ _ _)
        k_fold
        (repeat ((fail_if_success (focus (with_reducible show wpAny _ _ (pyIter _) _ _ _))); (first | (k_unfold; (try dsimp only)) | (k_end; wrow_close) | walk1 | (dsimp only; walk1) | (leave1; walk_say "STEP leave1"; try dsimp only) | fail "no step")))
        rename_i _ _ _ tk20 _ h17 h18 h19 h20 F15 N15 h21 tk21 t13 u13 v13 rg F16 N16 kp
        rw [hlya] at rg
        have hkn : k = (pre.length : Int) := by omega
        have hitem : Txt.item (T yb) k = T [yb.getD pre.length 0] := by
          rw [item_T (by omega) (by omega), hkn]; simp
        obtain ⟨bc, hbc⟩ : ∃ bc, bc = yb.getD pre.length 0 := ⟨_, rfl⟩
        have hbc2 : bc = 65 ∨ bc = 97 := hB2 _ (by
          rw [hbc, List.getD_eq_getElem?_getD, List.getElem?_eq_getElem (by omega)]
          exact List.getElem_mem _)
        rw [hitem, ← hbc] at F16
        obtain ⟨m8, e8, F17⟩ := fr_named' F16 [(Str.ofString "a", .str (T ya) tc), (Str.ofString "max_cost", .int mx t3), (Str.ofString "row", .ref l), (Str.ofString "bchar", .str (T [bc]) _), (Str.ofString "distance", .int (k * 2) _), (Str.ofString "result", .int (k * 2) _), (Str.ofString "minimum", .int big _)] (List.forall_mem_cons.mpr ⟨rfl, List.forall_mem_cons.mpr ⟨rfl, List.forall_mem_cons.mpr ⟨rfl, List.forall_mem_cons.mpr ⟨rfl, List.forall_mem_cons.mpr ⟨rfl, List.forall_mem_cons.mpr ⟨rfl, List.forall_mem_cons.mpr ⟨rfl, List.forall_mem_nil _⟩⟩⟩⟩⟩⟩⟩)
        clear F16 F15 N15
        refine kst_range (n := n2) (σ := InS) (fun c => (l, listOf c.vs.toArray c.nn) :: (news ++ own)) (fun c => [(Str.ofString "distance", Value.int c.d c.td), (Str.ofString "result", Value.int c.r c.tr), (Str.ofString "minimum", Value.int c.m c.tm)]) (fun c => IntsAre c.vs c.row)
          [Str.ofString "substitute", Str.ofString "insert_delete"]
          (fun q e => q.length ≤ n2 ∧ e.row.length = n2 ∧ ∃ done, done.length = q.length ∧ e.row = done ++ c.row.drop q.length ∧
            rowStep bc ya c.row (k * 2) (k * 2) big = (done ++ (rowStep bc (ya.drop q.length) (c.row.drop q.length) e.d e.r e.m).1, (rowStep bc (ya.drop q.length) (c.row.drop q.length) e.d e.r e.m).2)) ⟨c.vs, c.row, c.nn, k * 2, _, k * 2, _, big, _⟩
          (by rfl) rg (small_one (by omega) (by omega) (by omega) (by omega)) (by rw [rangeSize_nat]; omega) F17 N16 hI2 (List.forall_mem_cons.mpr ⟨by rfl, List.forall_mem_cons.mpr ⟨by rfl, List.forall_mem_cons.mpr ⟨by rfl, List.forall_mem_nil _⟩⟩⟩)
          ⟨Nat.zero_le _, hrl, [], rfl, by simp, by simp⟩ ?turn4 ?done4
        case turn4 =>
          intro e q j t' u' h' tk' own' hj hltq hoff' hf' hP' F18 N18
          replace F18 : Fr g1 L1 h' _ := F18
          replace N18 : News g1 L1 h' ((l, listOf e.vs.toArray e.nn) :: (news ++ own ++ own')) := N18
          clear F17 N16 rg kp
          obtain ⟨hq, hrl2, dn, hdn, herow, hstep⟩ := hP'
          dsimp only [kstB] at F18
          (with_reducible show wpAny _ _ _ _ _ _)
          k_fold
          obtain ⟨x, hx⟩ : ∃ x, x = ya.getD q.length 0 := ⟨_, rfl⟩
          have hjn : j = (q.length : Int) := by omega
          have hit : Txt.item (T ya) j = T [x] := by
            rw [item_T (by omega) (by omega), hjn, hx]; simp
          have hx2 : x = 65 ∨ x = 97 := hA2 _ (by
            rw [hx, List.getD_eq_getElem?_getD, List.getElem?_eq_getElem (by omega)]
            exact List.getElem_mem _)
          (repeat ((fail_if_success (focus (with_reducible show wpAny _ _ (PySem.call (Value.ref _) _) _ _ _))); (first | (k_unfold; (try dsimp only)) | (k_end; wrow_close) | walk1 | (dsimp only; walk1) | (leave1; walk_say "STEP leave1"; try dsimp only) | fail "no step")))
          rw [hit]
          refine fold_q ?_
          intro qua hqua
          refine (sub_ct hbc2 hx2).use (by k_asm) (by k_asm) (by k_asm) (by k_asm) (by k_asm) rfl (by ktr_room) (by ktr_units) ?_
          rintro r news' h22 tk22 ⟨t22, rfl, rfl⟩ F19 N19
          refine hqua _ _ ?_
          clear F18 N18
          dsimp only
          k_steps
          have hqr : q.length < e.row.length := by omega
          rename Fr _ _ _ _ => F19
          rename News _ _ _ _ => N19
          have hla2 : ∀ p ∈ news ++ own ++ own', p.1 ≠ l := fun p hp => by
            rcases List.mem_append.mp hp with hp | hp
            · rcases List.mem_append.mp hp with hp | hp
              · exact Nat.ne_of_lt (hl1 p hp)
              · exact hoff p hp l (.head _)
            · exact hoff' p hp l (.head _)
          refine ksa_set (by k_asm) (by k_asm) (Upd.head hla2) hf' (by omega) (by omega) (by omega) ?_
          intro h23 F20 N20 hI3 hl3 _
          clear F19 N19
          k_steps
          all_goals rename Fr _ _ _ _ => F21
          all_goals rename News _ _ _ _ => N21
          all_goals
            have hql : (q ++ [j]).length = q.length + 1 := by simp
            have hjt : j.toNat = q.length := by omega
          · rename _ < e.m => hlt1
            obtain ⟨dn', d1, d2, d3⟩ := in_next hltq hjt hya hrl hdn herow hx rfl rfl (if_pos hlt1).symm hstep
            refine kst_end ⟨_, _, _, _, _, _, _, _, _⟩ F21 N21 (List.forall_mem_cons.mpr ⟨.head _, fun p hp => .tail _ (List.mem_append_left _ hp)⟩) (fun p hp => .tail _ (List.mem_append_right _ hp)) rfl hI3 (List.forall_mem_cons.mpr ⟨by rfl, List.forall_mem_cons.mpr ⟨by rfl, List.forall_mem_cons.mpr ⟨by rfl, List.forall_mem_nil _⟩⟩⟩) ?hr ?hp
            case hr =>
              intro z n0 hz hst
              have n1 : z ≠ Str.ofString "distance" := hz _ (.head _)
              have n2 : z ≠ Str.ofString "result" := hz _ (.tail _ (.head _))
              have n3 : z ≠ Str.ofString "minimum" := hz _ (.tail _ (.tail _ (.head _)))
              have n4 : z ≠ Str.ofString "substitute" := by rintro rfl; revert hst; decide
              have n5 : z ≠ Str.ofString "insert_delete" := by rintro rfl; revert hst; decide
              simp only [kstB, if_neg n0, if_neg n1, if_neg n2, if_neg n3, if_neg n4, if_neg n5, hst, Bool.false_eq_true, if_false]
            case hp =>
              dsimp only
              rw [hql]
              exact ⟨hltq, by rw [List.length_set]; exact hrl2, dn', d1, d2, d3⟩
          · rename ¬ (_ < e.m) => hlt1
            obtain ⟨dn', d1, d2, d3⟩ := in_next hltq hjt hya hrl hdn herow hx rfl rfl (if_neg hlt1).symm hstep
            refine kst_end ⟨_, _, _, _, _, _, _, _, _⟩ F21 N21 (List.forall_mem_cons.mpr ⟨.head _, fun p hp => .tail _ (List.mem_append_left _ hp)⟩) (fun p hp => .tail _ (List.mem_append_right _ hp)) rfl hI3 (List.forall_mem_cons.mpr ⟨by rfl, List.forall_mem_cons.mpr ⟨by rfl, List.forall_mem_cons.mpr ⟨by rfl, List.forall_mem_nil _⟩⟩⟩) ?hr ?hp
            case hr =>
              intro z n0 hz hst
              have n1 : z ≠ Str.ofString "distance" := hz _ (.head _)
              have n2 : z ≠ Str.ofString "result" := hz _ (.tail _ (.head _))
              have n3 : z ≠ Str.ofString "minimum" := hz _ (.tail _ (.tail _ (.head _)))
              have n4 : z ≠ Str.ofString "substitute" := by rintro rfl; revert hst; decide
              have n5 : z ≠ Str.ofString "insert_delete" := by rintro rfl; revert hst; decide
              simp only [kstB, if_neg n0, if_neg n1, if_neg n2, if_neg n3, if_neg n4, if_neg n5, hst, Bool.false_eq_true, if_false]
            case hp =>
              dsimp only
              rw [hql]
              exact ⟨hltq, by rw [List.length_set]; exact hrl2, dn', d1, d2, d3⟩
        case done4 =>
          intro e u' h' tk' hf' hP' F18 N18
          replace F18 : Fr g1 L1 h' _ := F18
          replace N18 : News g1 L1 h' ((l, listOf e.vs.toArray e.nn) :: (news ++ own)) := N18
          clear F17 N16 rg kp
          obtain ⟨_, hrl2, dn, hdn, herow, hstep⟩ := hP'
          dsimp only [kstB] at F18
          have hrk : (rangeKs 0 n2).length = n2 := by simp [rangeKs]
          rw [hrk, List.drop_of_length_le (by omega), List.drop_of_length_le (by omega)] at hstep
          rw [hrk, List.drop_of_length_le (by omega), List.append_nil] at herow
          simp only [rowStep, List.append_nil, ← herow] at hstep
          have ey : yb.drop pre.length = bc :: yb.drop (pre.length + 1) := by
            rw [List.drop_eq_getElem_cons (by omega), hbc, List.getD_eq_getElem?_getD, List.getElem?_eq_getElem (by omega)]; rfl
          rw [ey] at hlev
          simp only [levRows] at hlev
          rw [← hkn, hstep] at hlev
          dsimp only at hlev
          dsimp only
          k_steps
          · rename mx < e.m => hlt1
            rw [if_pos hlt1] at hlev
            rw [hlev] at hret
            rename News h₀ _ _ _ => kN
            exact hret _ _ _ _ ⟨_, rfl, rfl⟩ (by assumption) (fun p hp => kN p (.tail _ (List.mem_append_left _ hp)))
          · rename ¬ (mx < e.m) => hlt1
            rw [if_neg hlt1] at hlev
            have hql : (pre ++ [k]).length = pre.length + 1 := by simp
            rename Fr _ _ _ _ => F21
            rename News _ _ _ _ => N21
            refine kst_end ⟨_, _, _, _, _⟩ F21 N21 (List.forall_mem_cons.mpr ⟨.head _, fun p hp => .tail _ (List.mem_append_left _ hp)⟩) (fun p hp => .tail _ (List.mem_append_right _ hp)) rfl ⟨hf', hrl2⟩ (List.forall_mem_cons.mpr ⟨by rfl, List.forall_mem_nil _⟩) ?hr ?hp
            case hr =>
              intro z n0 hz hst
              have e9 := e8 z
              have n2 : z ≠ Str.ofString "result" := hz _ (.head _)
              have n1 : z ≠ Str.ofString "distance" := by rintro rfl; revert hst; decide
              have n3 : z ≠ Str.ofString "minimum" := by rintro rfl; revert hst; decide
              have n4 : z ≠ Str.ofString "substitute" := by rintro rfl; revert hst; decide
              have n5 : z ≠ Str.ofString "insert_delete" := by rintro rfl; revert hst; decide
              have n6 : z ≠ Str.ofString "index" := by rintro rfl; revert hst; decide
              have n7 : z ≠ Str.ofString "bchar" := by rintro rfl; revert hst; decide
              have hst2 : [Str.ofString "substitute", Str.ofString "insert_delete"].contains z = false := by simp [n4, n5]
              simp only [kstB, if_neg n0, if_neg n1, if_neg n2, if_neg n3, if_neg n4, if_neg n5, if_neg n6, if_neg n7, hst, hst2, Bool.false_eq_true, if_false] at e9 ⊢
              exact e9
            case hp =>
              dsimp only
              rw [hql]
              refine ⟨hlt, ?_⟩
              rw [hlev, hkn]
              rfl
      case done3 =>
        intro c u h tk hf hP F14 N14
        replace F14 : Fr g1 L1 h _ := F14
        replace N14 : News g1 L1 h ((l, listOf c.vs.toArray c.nn) :: news) := N14
        clear F13 N12 rg kp
        obtain ⟨hI2, hrl⟩ := hf
        obtain ⟨hpl, hlev⟩ := hP
        dsimp only [kstB] at F14
        have hrk : (rangeKs 0 n2).length = n2 := by simp [rangeKs]
        rw [hrk, List.drop_of_length_le (by omega)] at hlev
        simp only [levRows] at hlev
        rw [hlev] at hret
        dsimp only
        k_steps
        rename News h₀ _ _ _ => kN
        exact hret _ _ _ _ ⟨_, rfl, rfl⟩ (by assumption) (fun p hp => kN p (.tail _ hp))
end Mine
end

section
open PySem PySem.W PySem.Spec PySem.Calls PyProof.Rows
namespace Mine
noncomputable def spell (c : Str) (kd : Int) : Str := if kd = 0 then c ++ Str.ofString " " else if kd = 1 then Str.ofString "\"" ++ c ++ Str.ofString "\"" else Str.ofString "\\" ++ c ++ Str.ofString "\n"
theorem spell_ct {w : World} {c : Str} {kd : Int} {t1 t2 : Tok} {news : List (Addr × Obj)} (hc : c.length = 1) (h0 : 0 ≤ kd) (h3 : kd < 3) :
    Ct w 98 [.str c t1, .int kd t2] news 1 8
      (fun r news' => ∃ t, r = .str (spell c kd) t ∧ news' = news) := by
  unfold Ct
  k_fill
  w_top off
  intro dp un gd cn cs a' ccd cl outer A₀ base h₀ L m s Q E p loose mean mg mb B F X N T hk hd hu hret
  refine wpAny_call ?_
  (k_dflt cell_enter)
  k_steps
  all_goals
    refine hret _ _ _ _ ⟨_, congrArg (fun z => Value.str z _) ?_, rfl⟩ (by assumption) (by assumption)
    unfold spell
    simp [*]
end Mine
end

section
open PySem PySem.W PySem.Spec PySem.Calls PyProof.Rows
open Builtin Builtin.ObjectAttr
namespace Mine
theorem fn_slot : Slot "function" "__setattr__" "object.__setattr__" := Slot.of (owner := "object") (n := "__setattr__") (by rfl) (by decide +kernel) (by decide +kernel) (by decide +kernel) (by decide +kernel) (by rfl)
theorem fn_mro : mroOf (.type "function") = pure [.type "function", .type "object"] := by rfl
theorem fn_read : typeLookup (.type "function") (Str.ofString "read") = pure none := by rfl
theorem fn_passes (self : Value) : refuseLoop self "__setattr__" [.type "function", .type "object"] = pure () := by rfl
theorem fn_setattr {prog : Program} {w : World} {A : Around} {E : Value → Shared → Prop} {h : Heap} {g : Array GenState} {d : Drawn} {t : Nat} {os : OsState} {f : Addr} {o : Obj} {fd : FuncData} {v : Value} {Q : Unit → Shared → Prop}
    (hx : h.get? f = some o) (hc : o.cls = .type "function") (hdn : o.dict = none) (hfn : o.data = .func fd)
    (hq : ∀ h' tk', h'.get? f = some { o with dict := some h.objs.size } → h'.Ns1 h.objs.size (fun y => if y = Str.ofString "read" then some v else none) → (∀ b ob, b ≠ f → h.get? b = some ob → h'.get? b = some ob) → Q () ⟨h', g, d, tk', os⟩) :
    wpAny (model prog w) A (setAttr (.ref f) (Str.ofString "read") v) Q E ⟨h, g, d, t, os⟩ := by
  have f3 := fn_slot.bind (.ref f)
  have f1 := fn_slot.lookup
  unfold setAttr callSpecial? specialOf
  repeat (any_goals (first | assumption | (with_reducible refine wpAny_loadPart_at hx ?_; rw [hc]) | wp_step))
  refine codeAny_call_builtin fn_slot.plain F.entry_object_sa (fn_slot.check _ _ _ _ _ _ _ _ (by first | exact ⟨o, hx, hc⟩ | exact ⟨hx, hc⟩ | exact ⟨f, o, rfl, hx, hc⟩) (by unfold argsOk; kernel_rfl) ?_)
  have hpass := fn_passes (.ref f)
  have f2 := fn_read
  have f4 := fn_mro
  unfold Builtin.«object.__setattr__»
  repeat (first | rw [refuse_eq] | rw [hpass] | rw [f4] | rw [f2] | (with_reducible refine wpAny_loadPart_at hx ?_; rw [hc]) | wp_step)
  have f5 : (!true || !typeHasDict (Value.type "function")) = false := by decide +kernel
  have f6 : ∀ d : Addr, dictMade (Value.type "function") f d = pure (some d) := fun d => by kernel_rfl
  simp only [hdn, hfn, f5, f6, Bool.false_eq_true, if_false]
  have hx₁ : (h.push { cls := .type "dict", data := .dict #[] }).get? f = some o := Heap.get?_push_of_some _ hx
  have hxs : f ≠ h.objs.size := Nat.ne_of_lt (Heap.lt_size hx)
  refine wpAny_bind (wpAny_alloc' ?_)
  refine wpAny_bind (wpAny_update' hx₁ ?_)
  refine wpAny_pure ?_
  have hgd : ((h.push { cls := .type "dict", data := .dict #[] }).update f fun o => { cls := o.cls, dict := some h.objs.size, data := o.data, slots := o.slots }).get? h.objs.size
      = some { cls := .type "dict", data := .dict #[] } :=
    (Heap.get?_update_ne _ _ _ _ hxs.symm).trans (Heap.get?_push_at rfl rfl)
  have hnd : ((h.push { cls := .type "dict", data := .dict #[] }).update f fun o => { cls := o.cls, dict := some h.objs.size, data := o.data, slots := o.slots }).Ns h.objs.size (fun _ => none) :=
    ⟨_, #[], _, hgd, rfl, fun e he => absurd he (by simp), fun _ => rfl⟩
  show wpAny _ _ (storeInDict h.objs.size (.str (Str.ofString "read") _) (Str.ofString "read") v) _ _ _
  unfold storeInDict newKeyGuard
  refine wpAny_bind (wpAny_pure (wpAny_bind (wpAny_nsSet1 (Heap.Ns1.of_empty hnd) fun h' hn' hs => ?_)))
  obtain ⟨oD, esD, epD, hoD, hdD, hcD⟩ := hn'.count (Within.cons (Str.ofString "read") v Within.nil)
  refine wpAny_bind (wpAny_lookBehind hoD (by rw [hdD]; exact pastItsLine_dict (Nat.le_trans hcD (by rw [List.length_cons, List.length_nil, sizeLine_eq]; omega))) ?_)
  wp_walk
  repeat (any_goals (first | assumption | wp_step))
  refine hq h' _ ?_ hn' (fun b ob hbx hb => ?_)
  · refine (hs.2 f hxs).trans (Heap.get?_update_self _ hx₁ ?_)
    have hfr := (Heap.get?_some_iff.mp hx).2
    obtain ⟨oc, od, odt, osl⟩ := o
    cases odt <;> first | rfl | exact hfr
  · exact (hs.2 b (Nat.ne_of_lt (Heap.lt_size hb))).trans ((Heap.get?_update_ne _ _ _ _ hbx).trans (Heap.get?_push_of_some _ hb))
/-- the dict of a function object that holds the one name -/
noncomputable def OneName (v : Value) (o : Obj) : Prop := ∃ es ep, o.data = .dict es ep ∧ StrKeys es ∧ UniqKeys es ∧ ∀ name, nsFind es name = if name = Str.ofString "read" then some v else none
theorem fnSet_K {prog : Program} {w : World} {A : Around} {E : Value → Shared → Prop} {s : Shared} {h₀ : Heap} {L f : Addr} {m : Str → Option Value} {news : List (Addr × Obj)} {g : Obj → List (Addr × Obj)} {o : Obj} {fd : FuncData} {v : Value} {Q : Unit → Shared → Prop}
    (F : Fr h₀ L s.heap m) (N : News h₀ L s.heap news) (U : UpdF f o news g) (hc : o.cls = .type "function") (hdn : o.dict = none) (hfn : o.data = .func fd)
    (hq : ∀ (D : Nat) (oD : Obj) h' tk, Fr h₀ L h' m → News h₀ L h' ((D, oD) :: g { o with dict := some D }) → OneName v oD → (∀ p ∈ news, p.1 < D) → Q () { s with heap := h', toks := tk }) :
    wpAny (model prog w) A (setAttr (.ref f) (Str.ofString "read") v) Q E s := by
  obtain ⟨pre, post, rfl, hg, h1, h2⟩ := U.split
  have z := N (f, o) (List.mem_append_right _ (.head _))
  obtain ⟨sh, sg, sd, st, so⟩ := s
  refine fn_setattr z.1 hc hdn hfn fun h' tk' e1 e2 hk => ?_
  obtain ⟨oD, es, ep, g1, g2, g3, g4, g5⟩ := e2
  have hlt : ∀ p ∈ pre ++ (f, o) :: post, p.1 < sh.objs.size := fun p hp => Heap.lt_size (N p hp).1
  refine hq sh.objs.size oD h' tk' ⟨?_, fun b ob e => hk b ob (fun q => ?_) (F.keep b ob e), F.above⟩ (fun p hp => ?_) ⟨es, ep, g2, g3, g4, g5⟩ hlt
  · obtain ⟨oL, esL, epL, eL, r⟩ := F.ns
    exact ⟨oL, esL, epL, hk L oL (fun q => z.2.1 q.symm) eL, r⟩
  · rw [q, z.2.2] at e; cases e
  · rcases List.mem_cons.mp hp with rfl | hp
    · exact ⟨g1, Nat.ne_of_gt F.ns.lt, next_is_new F⟩
    · rw [hg] at hp
      rcases List.mem_append.mp hp with hp | hp
      · have n := N p (List.mem_append_left _ hp)
        exact ⟨hk _ _ (h1 p hp) n.1, n.2⟩
      · rcases List.mem_cons.mp hp with rfl | hp
        · exact ⟨e1, z.2⟩
        · have n := N p (List.mem_append_right _ (.tail _ hp))
          exact ⟨hk _ _ (h2 p hp) n.1, n.2⟩
end Mine
end

section
open PySem PySem.W PySem.Spec PySem.Calls PyProof.Rows
open Builtin Builtin.ObjectAttr
namespace Mine
theorem fn_gslot : Slot "function" "__getattribute__" "object.__getattribute__" := Slot.of (owner := "object") (n := "__getattribute__") (by rfl) (by decide +kernel) (by decide +kernel) (by decide +kernel) (by decide +kernel) (by rfl)
theorem fn_nohook : typeLookup (.type "function") (Str.ofString "__getattr__") = pure none := by rfl
theorem fn_canon : (Manifest.canonical "object.__getattribute__" != "object.__getattribute__") = false := by decide +kernel
theorem ga_run {prog : Program} {w : World} {A : Around} {E : Value → Shared → Prop} {h : Heap} {g : Array GenState} {d : Drawn} {t : Nat} {os : OsState} {f D : Addr} {o oD : Obj} {fd : FuncData} {v : Value} {u : Tok} {Q : Fin → Shared → Prop}
    (hx : h.get? f = some o) (hc : o.cls = .type "function") (hdc : o.dict = some D) (hfn : o.data = .func fd) (hD : h.get? D = some oD) (hone : OneName v oD)
    (hq : ∀ tk', Q (.done (.ret v)) ⟨h, g, d, tk', os⟩) :
    wpAny (model prog w) A (Builtin.«object.__getattribute__» ⟨[.ref f, .str (Str.ofString "read") u], []⟩) Q E ⟨h, g, d, t, os⟩ := by
  have hT : (⟨h, g, d, t, os⟩ : Shared).TypeIs (.ref f) "function" := ⟨_, hx, hc⟩
  have f4 := fn_read
  unfold Builtin.«object.__getattribute__»
  repeat (any_goals (first | assumption | wp_step))
  have hN : h.Ns D (fun y => if y = Str.ofString "read" then some v else none) := let ⟨es, ep, a1, a2, _, a4⟩ := hone; ⟨oD, es, ep, hD, a1, a2, a4⟩
  simp only [hfn]
  unfold instanceDict
  repeat (any_goals (first | assumption | (with_reducible refine wpAny_loadPart_at hx ?_; rw [hc, hdc]) | (with_reducible refine wpAny_nsGet (s := ⟨h, g, d, _, os⟩) hN ?_) | wp_step))
  exact hq _
theorem fn_getattr {prog : Program} {w : World} {A : Around} {E : Value → Shared → Prop} {h : Heap} {g : Array GenState} {d : Drawn} {t : Nat} {os : OsState} {f D fr : Addr} {o oD : Obj} {fd : FuncData} {ex : Bool} {Q : Value → Shared → Prop}
    (hx : h.get? f = some o) (hc : o.cls = .type "function") (hdc : o.dict = some D) (hfn : o.data = .func fd) (hD : h.get? D = some oD) (hone : OneName (.ref fr) oD)
    (hq : ∀ tk', Q (.ref fr) ⟨h, g, d, tk', os⟩) :
    wpAny (model prog w) A (getAttr (.ref f) (Str.ofString "read") ex) Q E ⟨h, g, d, t, os⟩ := by
  have hT : ∀ t, (⟨h, g, d, t, os⟩ : Shared).TypeIs (.ref f) "function" := fun _ => ⟨_, hx, hc⟩
  unfold getAttr getAttrBy
  refine wpAny_bind (wpAny_mkText (wpAny_holding (wpAny_bind (wpAny_typeOf (hT _) (wpAny_bind (wpAny_of_eq fn_gslot.lookup ?_))))))
  show wpAny _ _ (getAttrByItsOwn (.ref f) _ (.type "function") (.builtin "object.__getattribute__") true ex) _ _ _
  unfold getAttrByItsOwn hookBefore callGetattribute boundAndCalled
  refine wpAny_bind (wpAny_of_eq (show (if onTheHeap (.type "function") then typeLookup (.type "function") "__getattr__" else pure none) = pure none from rfl) ?_)
  refine wpAny_bind (wpAny_attempt (wpAny_holding ?_))
  rw [show (ex && onTheHeap (Value.builtin "object.__getattribute__")) = false from Bool.and_false _, if_neg (by decide)]
  refine wpAny_bind (wpAny_of_eq (fn_gslot.bind _) ?_)
  show wpAny _ _ (call (.builtin "object.__getattribute__") [.ref f, .str _ _]) _ _ _
  refine wpAny_call ?_
  refine codeAny_call_builtin fn_gslot.plain F.entry_object_getattribute (fn_gslot.check _ _ _ _ _ _ _ _ (hT _) (F.args_object_getattribute_2 _ _) ?_)
  refine ga_run hx hc hdc hfn hD hone fun tk' => ?_
  exact wpAny_pure (hq _)
theorem fn_getmethod {prog : Program} {w : World} {A : Around} {E : Value → Shared → Prop} {h : Heap} {g : Array GenState} {d : Drawn} {t : Nat} {os : OsState} {f D fr : Addr} {o oD : Obj} {fd : FuncData} {pl : Sem Bool} {Q : Value × List Value → Shared → Prop}
    (hx : h.get? f = some o) (hc : o.cls = .type "function") (hdc : o.dict = some D) (hfn : o.data = .func fd) (hD : h.get? D = some oD) (hone : OneName (.ref fr) oD)
    (hq : ∀ tk', Q (.ref fr, []) ⟨h, g, d, tk', os⟩) :
    wpAny (model prog w) A (getMethod (.ref f) (Str.ofString "read") pl) Q E ⟨h, g, d, t, os⟩ := by
  have hT : ∀ t, (⟨h, g, d, t, os⟩ : Shared).TypeIs (.ref f) "function" := fun _ => ⟨_, hx, hc⟩
  unfold getMethod
  refine wpAny_bind (wpAny_specialOf (hT _) fn_gslot.lookup ?_)
  show wpAny _ _ (if (Manifest.canonical "object.__getattribute__" != "object.__getattribute__") = true then _ else _) _ _ _
  rw [fn_canon, if_neg (by decide)]
  refine wpAny_bind (wpAny_specialOf (hT _) fn_nohook ?_)
  simp only [Option.isSome_none, Bool.false_eq_true, if_false]
  refine wpAny_bind (wpAny_specialOf (hT _) fn_read ?_)
  refine wpAny_bind (fn_getattr hx hc hdc hfn hD hone fun tk' => ?_)
  exact wpAny_pure (hq _)
theorem fnMeth_K {prog : Program} {w : World} {A : Around} {E : Value → Shared → Prop} {s : Shared} {h₀ : Heap} {L f D fr : Addr} {news : List (Addr × Obj)} {o oD : Obj} {fd : FuncData} {pl : Sem Bool} {Q : Value × List Value → Shared → Prop}
    (N : News h₀ L s.heap news) (hm : (f, o) ∈ news) (hmD : (D, oD) ∈ news) (hc : o.cls = .type "function") (hdc : o.dict = some D) (hfn : o.data = .func fd) (hone : OneName (.ref fr) oD)
    (hq : ∀ tk', Q (.ref fr, []) { s with toks := tk' }) :
    wpAny (model prog w) A (getMethod (.ref f) (Str.ofString "read") pl) Q E s := by
  obtain ⟨sh, sg, sd, st, so⟩ := s
  exact fn_getmethod (N _ hm).1 hc hdc hfn (N _ hmD).1 hone hq
end Mine
end

section
open PySem PySem.W PySem.Spec PySem.Calls PyProof.Rows
namespace Mine
local macro_rules | `(tactic| k_all) => `(tactic| first | (with_reducible assumption) | exact neAll (by assumption) (by omega))
/-- the nested def: it reads one sign on -/
noncomputable def RdOk (w : World) (tx : Str) (fr la : Nat) (fx : List (Addr × Obj)) : Prop :=
  ∀ (pos : Nat) (tp t : Tok) (k : Nat) (rest : List (Addr × Obj)), pos ≤ tx.length → (∀ p ∈ rest, p.1 ≠ la) →
    Ct w fr [.int 1 t] ((la, listOf #[.int pos tp] k) :: (fx ++ rest)) 1 8
      (fun r news' => ∃ t' tp', r = .str (Txt.slice tx (some (pos : Int)) (some ((pos : Int) + 1))) t' ∧
        news' = (la, listOf #[.int ((pos : Int) + (Txt.slice tx (some (pos : Int)) (some ((pos : Int) + 1))).length) tp'] k) :: (fx ++ rest))
/-- what _law_machine makes -/
inductive MacOk (w : World) (c : Str) (news : List (Addr × Obj)) (r : Value) (news' : List (Addr × Obj)) : Prop
  | mk (l x d D f cf fr cr la cA cX : Nat) (q1 q2 q3 q4 : Int) (t1 t2 t3 t4 t5 t6 t7 : Tok) (oD fo oc ofr ocr oA oX oT : Obj)
      (hr : r = .ref x) (hn : news' = (l, listOf #[] 0) :: (x, instObj 66 d) :: (d, dictOf (lexDict q1 q2 q3 q4 t1 t2 t3 t4 t5 t6 1 f l) 4) :: (D, oD) :: (f, fo) :: (cf, oc) :: (fr, ofr) :: (cr, ocr) :: (la, listOf #[.int 0 t7] 0) :: (cA, oA) :: (cX, oX) :: (86, oT) :: news)
      (h1 : OneName (.ref fr) oD) (h2 : fo.cls = .type "function") (h3 : fo.dict = some D) (h4 : ∃ fd, fo.data = .func fd) (h5 : ∃ fd, ofr.data = .func fd) (h6 : ∃ ps, oT = tabObj ps)
      (g1 : 86 < cX) (g2 : cX < cA) (g3 : cA < la) (g4 : la < cr) (g5 : cr < fr) (g6 : fr < cf) (g7 : cf < f) (g8 : f < D) (g9 : D < d) (g10 : d < x) (g11 : x < l) (g12 : ∀ p ∈ news, p.1 < cX)
      (hrd : RdOk w c fr la [(fr, ofr), (cr, ocr), (cA, oA), (cX, oX)]) : MacOk w c news r news'
theorem mac_ct {w : World} {c : Str} {t1 : Tok} {news : List (Addr × Obj)} (hc : c.length < 100) (h86 : ∀ p ∈ news, p.1 ≠ 86) :
    Ct w 91 [.str c t1] ((86, tabObj #[]) :: news) 3 20 (fun r news' => MacOk w c news r news') := by
  unfold Ct
  k_fill
  w_top off
  intro dp un gd cn cs a' ccd cl outer A₀ base h₀ L m s Q E p loose mean mg mb B F X N T hk hd hu hret
  refine wpAny_call ?_
  k_dflt (refine' code_defC ?k1 ?k2 ?k3 ?k4 ?k5 ?kA ?kF ?kK ?k6 ?k7 ?k8 ?k9 ?kB ?kD ?_ ?c2 ?c3 ?c4; (case kA => exact rfl); (case kF => exact rfl); (case kK => assumption); (case k1 => k_asm); (case k2 => k_asm); (case k3 => k_asm); (case k4 => k_asm); (case k5 => k_asm); (case k6 => k_is); (case k7 => k_is); (case k8 => ktr_room); (case k9 => exact BindsTo.of_eq rfl); (case kB => exact rfl); (case kD => decide +kernel); (case c2 => exact rfl); (case c3 => exact rfl); (case c4 => exact rfl); k_whole; intro g' L' h' tk' cells' FG' F' N' Y' B' X' T' l1; k_cells Y'; (try simp only [List.cons_append, List.nil_append] at N'); (try dsimp only); (try k_lift B'); (try k_fold))
  have CH : CodeHd g' 90 86 := codeHd_of_K X' (by rfl)
  have l0 : ∀ p ∈ news, p.1 < L' := fun p hp => l1 p (.tail _ hp)
  have l86 : @LT.lt Nat _ 86 L' := l1 _ (.head _)
  repeat (first | (k_unfold; (try dsimp only)) | (k_end; wrow_close) | walk1 | (dsimp only; walk1) | (leave1; walk_say "STEP leave1"; try dsimp only) | fail "no step")
  rename Fr _ _ _ _ => F1
  rename News _ _ _ _ => N1
  refine fnSet_K F1 N1 (by k_updF) rfl rfl rfl ?_
  intro D oD h2 tk2 F2 N2 hone hD
  clear F1 N1
  k_lt hD
  dsimp only at N2 ⊢
  repeat (first | (k_unfold; (try dsimp only)) | (k_end; wrow_close) | walk1 | (dsimp only; walk1) | (leave1; walk_say "STEP leave1"; try dsimp only) | fail "no step")
  k_dflt (refine' call_cls ?k1 ?k2 ?k3 ?k4 ?k5 ?k6 ?_; (case k1 => k_asm); (case k2 => k_asm); (case k3 => k_asm); (case k4 => k_is); (case k5 => k_is); (case k6 => k_is); k_whole; intro x' d' h' F' N' l1 l2; (try k_lt l1); (try k_lt2 l2); (try k_sweep); (refine' code_def ?k1 ?k2 ?k3 ?k4 ?k5 ?kA ?kF ?kK ?k6 ?k7 ?k8 ?k9 ?kB ?_ ?c2 ?c3 ?c4 ?c5; (case kA => exact rfl); (case kF => exact rfl); (case kK => exact rfl); (case k1 => k_asm); (case k2 => k_asm); (case k3 => k_asm); (case k4 => k_asm); (case k5 => k_asm); (case k6 => k_is); (case k7 => k_is); (case k8 => ktr_room); (case k9 => exact BindsTo.of_eq rfl); (case c5 => decide); (case kB => exact locs rfl); (case c2 => exact rfl); (case c3 => exact rfl); (case c4 => exact rfl); k_whole; intro g' L' h' FG' F' N' B' X' T'; (try dsimp only); (try k_lift B'); (try k_fold)))
  repeat (first | (k_unfold; (try dsimp only)) | (k_end; wrow_close) | walk1 | (dsimp only; walk1) | (leave1; walk_say "STEP leave1"; try dsimp only) | fail "no step")
  rename News h₀ _ _ _ => kN
  rename Fr h₀ _ _ _ => kF
  refine hret _ _ _ _ ⟨_, _, _, _, _, _, _, _, _, _, _, _, _, _, _, _, _, _, _, _, _, _, _, _, _, _, _, _, _, _, rfl, rfl, hone, rfl, rfl, ⟨_, rfl⟩, ⟨_, rfl⟩, ⟨_, rfl⟩, ?_, ?_, ?_, ?_, ?_, ?_, ?_, ?_, ?_, ?_, ?_, fun p hp => Nat.lt_succ_of_lt (l0 p hp), ?_⟩ kF kN
  iterate 11 (first | (focus (show (_ : Nat) < _); omega) | fail "order")
  · clear hret
    rename Obj.data _ = Data.cell (bindC _ _ _ _) => dX
    rename Obj.data _ = Data.cell (some (Value.ref _)) => dA
    replace dX : Obj.data _ = Data.cell (some (.str c t1)) := dX
    rename (_ : Array Value)[1]? = some _ => e1
    clear e1
    rename Obj.data _ = Data.fields _ => e1
    clear e1
    repeat (rename News _ _ _ _ => zz; clear zz)
    repeat (rename Fr _ _ _ _ => zz; clear zz)
    repeat (rename Below _ _ _ _ => zz; clear zz)
    repeat (rename Top _ _ _ _ _ _ => zz; clear zz)
    repeat (rename Frag.In _ _ => zz; clear zz)
    clear hk hd hu
    intro pos tp t k rest hpos hrest
    unfold Ct
    k_fill
    w_top off
    intro dp un gd cn cs a ccd cl outer A₀ base h₀ L m s Q E p loose mean mg' mb B F X N T hk hd hu hret
    refine wpAny_call ?_
    k_dflt (refine' code_nest ?k1 ?k2 ?k3 ?k4 ?k5 ?kA ?kF ?kK ?k6 ?k7 ?k8 ?k9 ?kB ?_ ?c2 ?c3 ?c4 ?c5; (case kA => exact rfl); (case kF => exact rfl); (case kK => assumption); (case k1 => k_asm); (case k2 => k_asm); (case k3 => k_asm); (case k4 => k_asm); (case k5 => k_asm); (case k6 => (simp only [List.cons_append, List.nil_append]; k_mem)); (case k7 => exact codeRec_news (by k_asm) (by k_mem) (by assumption) (by assumption)); (case k8 => ktr_room); (case k9 => exact BindsTo.of_eq rfl); (case c5 => decide); (case kB => exact locs rfl); (case c2 => exact rfl); (case c3 => exact rfl); (case c4 => exact rfl); k_whole; intro g' L' h' FG' F' N' B' X' T'; (try dsimp only); (try k_lift B'); (try k_fold))
    repeat (first | (k_unfold; (try dsimp only)) | (k_end; wrow_close) | walk1 | (dsimp only; walk1) | (leave1; walk_say "STEP leave1"; try dsimp only) | fail "no step")
    rename Fr _ _ _ _ => F1
    rename News _ _ _ _ => N1
    refine ksa_set (vs := [.int pos tp]) (ns := [(pos : Int)]) F1 N1 (Upd.head ?u) (.cons _ _ .nil) (by omega) (by simp) (by omega) ?_
    case u =>
      intro p hp
      rcases List.mem_append.mp hp with hp | hp
      · rcases List.mem_cons.mp hp with rfl | hp
        · k_ne
        rcases List.mem_cons.mp hp with rfl | hp
        · k_ne
        rcases List.mem_cons.mp hp with rfl | hp
        · k_ne
        rcases List.mem_cons.mp hp with rfl | hp
        · k_ne
        cases hp
      · exact hrest p hp
    intro h2 F2 N2 _ _ _
    clear F1 N1
    dsimp only
    k_steps
    exact hret _ _ _ _ ⟨_, _, rfl, rfl⟩ (by assumption) (by assumption)
end Mine
end

section
open PySem PySem.W PySem.Spec PySem.Calls PyProof.Rows
namespace Mine
noncomputable abbrev ciObj (q : Addr) (t : Tok) : Obj := { cls := .type "callable_iterator", data := .fields #[.ref q, .str (Str.ofString "") t, .bool false] }
theorem ci_owner : Manifest.owners.lookup (String.ofList ['r', 'o', 't', 'a', 'r', 'e', 't', 'i', '_', 'e', 'l', 'b', 'a', 'l', 'l', 'a', 'c'].reverse) = some Manifest.sig_callable_iterator := by kernel_rfl
theorem ci_snext : Slot "callable_iterator" "__next__" "callable_iterator.__next__" :=
  .of (owner := "callable_iterator") (n := "__next__") (by rw [typeLookup_type, builtinLookup_eq_fast]; kernel_rfl) (by decide +kernel) (by decide +kernel) (by decide +kernel)
    (by first | exact .inl (by decide +kernel) | exact .inr (by decide +kernel)) (by rw [isSubtype_type]; kernel_rfl)
theorem ci_siter : Slot "callable_iterator" "__iter__" "callable_iterator.__iter__" :=
  .of (owner := "callable_iterator") (n := "__iter__") (by rw [typeLookup_type, builtinLookup_eq_fast]; kernel_rfl) (by decide +kernel) (by decide +kernel) (by decide +kernel)
    (by first | exact .inl (by decide +kernel) | exact .inr (by decide +kernel)) (by rw [isSubtype_type]; kernel_rfl)
theorem ci_enext : entryFor table "callable_iterator.__next__" = some Builtin.«callable_iterator.__next__» := entryFor_of_tree (by kernel_rfl)
theorem ci_eiter : entryFor table "callable_iterator.__iter__" = some Builtin.«dict_keyiterator.__iter__» :=
  entryFor_alias (id' := "dict_keyiterator.__iter__") (by kernel_rfl) (by first | rfl | decide +kernel | (unfold String.splitOn; simp +decide [String.splitOnAux])) (by decide +kernel) (by kernel_rfl)
theorem ci_anext (a : Value) : argsOk "callable_iterator.__next__" ⟨[a], []⟩ := by
  unfold argsOk; rw [signature?_of (id := "callable_iterator.__next__") (n := ['_', '_', 't', 'x', 'e', 'n', '_', '_']) (o := ['r', 'o', 't', 'a', 'r', 'e', 't', 'i', '_', 'e', 'l', 'b', 'a', 'l', 'l', 'a', 'c']) (by kernel_rfl) ci_owner]; kernel_rfl
theorem ci_aiter (a : Value) : argsOk "callable_iterator.__iter__" ⟨[a], []⟩ := by
  unfold argsOk; rw [signature?_of (id := "callable_iterator.__iter__") (n := ['_', '_', 'r', 'e', 't', 'i', '_', '_']) (o := ['r', 'o', 't', 'a', 'r', 'e', 't', 'i', '_', 'e', 'l', 'b', 'a', 'l', 'l', 'a', 'c']) (by kernel_rfl) ci_owner]; kernel_rfl
theorem it_entry : entryFor table "iter" = some Builtin.«iter» := by first | exact entryFor_of_tree (by kernel_rfl) | exact entryFor_of_fast (by kernel_rfl)
theorem it_args (a b : Value) : argsOk "iter" ⟨[a, b], []⟩ := by unfold argsOk; kernel_rfl
theorem m_call : typeLookup (.type "method") "__call__" = pure (some (.builtin "method.__call__")) := by rw [typeLookup_type, builtinLookup_eq_fast]; kernel_rfl

section
variable {prog : Program} {w : World} {A : Around} {E : Value → Shared → Prop} {s : Shared}
theorem ci_iter {I q : Addr} {t : Tok} {Q : Value → Shared → Prop} (hI : s.heap.get? I = some (ciObj q t)) (h : Q (.ref I) s) : wpAny (model prog w) A (pyIter (.ref I)) Q E s := by
  have hT : s.TypeIs (.ref I) "callable_iterator" := ⟨_, hI, rfl⟩
  refine wpAny_pyIter_slot hT ci_siter (wpAny_call_entry ci_siter hT ci_eiter ?_ (ci_aiter _))
  show wpAny _ _ (ret (.ref I)) _ _ s
  exact wpAny_pure ⟨_, rfl, "callable_iterator", _, hT, ci_snext.lookup, h⟩

theorem ci_make {q : Addr} {t : Tok} {Q : Value → Shared → Prop} {oq : Obj} (hq : s.heap.get? q = some oq) (hc : oq.cls = .type "method")
    (h : Q (.ref s.heap.objs.size) { s with heap := s.heap.push (ciObj q t) }) : wpAny (model prog w) A (call (.builtin "iter") [.ref q, .str (Str.ofString "") t]) Q E s := by
  have hT : s.TypeIs (.ref q) "method" := ⟨_, hq, hc⟩
  refine call_function_entry (by decide +kernel) (by decide +kernel) it_entry (it_args _ _) ?_
  unfold Builtin.«iter»
  refine wpAny_bind (wpAny_of_eq (a := [Value.ref q, Value.str (Str.ofString "") t]) (by first | rfl | kernel_rfl) ?_)
  dsimp only
  refine wpAny_bind (wpAny_specialOf hT m_call ?_)
  simp only [Option.isNone_some, Bool.false_eq_true, if_false]
  refine wpAny_bind (wpAny_rule ?_)
  unfold newFields
  refine wpAny_bind (wpAny_newObj_type ?_ (by size_fits))
  exact wpAny_pure ⟨_, rfl, h⟩
theorem borrowed {f : Value} {pos : List Value} {Q : Value → Shared → Prop} (hc : codeAny (model prog w) A (.call f ⟨pos, []⟩) (fun r s' => match r with | .ok (.ret v) => Q v s' | .ok _ => False | .error e => E e s') s) : wpAny (model prog w) A (callBorrowed f pos) Q E s := fun Γ p hΓ => by
  unfold callBorrowed
  rw [Sem.wp_call]
  have e := hc (Γ.enter (.call f ⟨pos, []⟩) none p) p rfl (hΓ.enter _ none p (by intro x; cases x))
  refine cast ?_ e
  congr 1
  funext r s'
  cases r with
  | error e => first | rfl | simp
  | ok f => cases f <;> first | rfl | simp
theorem ci_next {I q g : Addr} {x : Value} {t : Tok} {og : Obj} {fd : FuncData} {Q : Option Value → Shared → Prop} (hh : A.handled = none) (hI : s.heap.get? I = some (ciObj q t)) (hq : s.heap.get? q = some (methodObj (.ref g) x)) (hg : s.heap.get? g = some og) (hfd : og.data = .func fd)
    (h : codeAny (model prog w) A.in1 (.call (.ref g) ⟨[x], []⟩) (fun r s' => match r with
      | .ok (.ret v) => ∃ c u, v = .str c u ∧ s'.heap.get? I = some (ciObj q t) ∧ s'.heap.get? q = some (methodObj (.ref g) x) ∧ s'.heap.get? g = some og ∧
          (c ≠ Str.ofString "" → Q (some v) s') ∧ (c = Str.ofString "" → ∀ h', Heap.ExtBut I s'.heap h' → Q none { s' with heap := h' })
      | .ok _ => False
      | .error e => False) s) :
    wpAny (model prog w) A (pyNext (.ref I)) Q E s := by
  have hT : s.TypeIs (.ref I) "callable_iterator" := ⟨_, hI, rfl⟩
  unfold pyNext
  refine wpAny_bind (wpAny_attempt (wpAny_callSpecial?_slot (name := Str.ofString "__next__") hT ci_snext
    (wpAny_call_entry ci_snext hT ci_enext ?_ (ci_anext _))))
  unfold Builtin.«callable_iterator.__next__»
  refine wpAny_bind (wpAny_of_eq (a := (Value.ref I, [])) rfl ?_)
  dsimp only
  refine wpAny_bind (wpAny_field hI rfl (x := .bool false) rfl ?_)
  rw [if_neg (by decide)]
  refine wpAny_bind (wpAny_field hI rfl (x := .ref q) rfl ?_)
  refine wpAny_bind (wpAny_attempt ?_)
  have hbor : ∀ {s : Shared} {A : Around} {E : Value → Shared → Prop} {P : Bool → Shared → Prop}, s.heap.get? q = some (methodObj (.ref g) x) → s.heap.get? g = some og → P true s → wpAny (model prog w) A (borrowsExactly (.ref q)) P E s := by
    intro s A E P hq hg hP
    unfold borrowsExactly
    dsimp only
    refine wpAny_bind (wpAny_load hq ?_)
    dsimp only [methodObj]
    rw [if_pos (by decide)]
    show wpAny _ _ (load g >>= _) _ _ s
    refine wpAny_bind (wpAny_load hg ?_)
    rw [hfd]
    exact wpAny_pure hP
  unfold callOutOfASlot
  refine wpAny_bind (hbor hq hg ?_)
  rw [if_pos rfl]
  refine borrowed (method_call hq ?_)
  refine codeAny_mono h fun r s' hr => ?_
  rcases r with e | (_ | _ | _ | v)
  · exact hr.elim
  · exact hr.elim
  · exact hr.elim
  · exact hr.elim
  obtain ⟨c, u, rfl, hI', hq', hg', h1, h2⟩ := hr
  dsimp only
  refine wpAny_bind (wpAny_field hI' rfl (x := .bool false) rfl ?_)
  rw [if_neg (by decide)]
  refine wpAny_bind (wpAny_field hI' rfl (x := .str (Str.ofString "") t) rfl (wpAny_bind (wpAny_holding (eqBool_str ?_))))
  by_cases hc : c = Str.ofString ""
  · subst hc
    rw [if_neg (by decide)]
    refine wpAny_bind (wpAny_rule ?_)
    refine wpAny_bind ?_
    show wpAny _ _ (field (.ref I) 0 >>= _) _ _ s'
    refine wpAny_bind (wpAny_field hI' rfl (x := .ref q) rfl ?_)
    show wpAny _ _ (slotLetsGo _ _ _ >>= _) _ _ s'
    refine wpAny_bind ?_
    unfold slotLetsGo
    refine wpAny_bind (hbor hq' hg' ?_)
    rw [if_pos rfl]
    refine wpAny_pure ?_
    show wpAny _ _ (setField (.ref I) 0 .none >>= _) _ _ s'
    refine wpAny_bind (wpAny_setField hI' rfl (by simp) ?_)
    have hI1 : (s'.heap.update I (Obj.mapFields (·.setIfInBounds 0 .none))).get? I = some { cls := .type "callable_iterator", data := .fields #[.none, .str (Str.ofString "") t, .bool false] } := Heap.get?_update_self _ hI' (by rfl)
    have S1 : Heap.SameBut I s'.heap (s'.heap.update I (Obj.mapFields (·.setIfInBounds 0 .none))) := Heap.SameBut.update ..
    generalize s'.heap.update I (Obj.mapFields (·.setIfInBounds 0 .none)) = g1 at *
    show wpAny _ _ (setField (.ref I) 1 .none >>= _) _ _ _
    refine wpAny_bind (wpAny_setField (s := { s' with heap := g1 }) hI1 rfl (by simp) ?_)
    have hI2 : (g1.update I (Obj.mapFields (·.setIfInBounds 1 .none))).get? I = some { cls := .type "callable_iterator", data := .fields #[.none, .none, .bool false] } := Heap.get?_update_self _ hI1 (by rfl)
    have S2 : Heap.SameBut I g1 (g1.update I (Obj.mapFields (·.setIfInBounds 1 .none))) := Heap.SameBut.update ..
    dsimp only
    generalize g1.update I (Obj.mapFields (·.setIfInBounds 1 .none)) = g2 at *
    refine wpAny_setField (s := { s' with heap := g2 }) hI2 rfl (by simp) ?_
    have S3 : Heap.SameBut I g2 (g2.update I (Obj.mapFields (·.setIfInBounds 2 (.bool true)))) := Heap.SameBut.update ..
    dsimp only
    generalize g2.update I (Obj.mapFields (·.setIfInBounds 2 (.bool true))) = g3 at *
    have SE : Heap.ExtBut I s'.heap g3 := fun b o hb e => (S3.2 b hb).trans ((S2.2 b hb).trans ((S1.2 b hb).trans e))
    show wpAny _ _ (newExc (.type "StopIteration") [] >>= _) _ _ _
    refine wpAny_bind ?_
    simp only [newExc, newTuple]
    refine wpAny_bind (wpAny_newObj_type ?_ (by size_fits))
    refine wpAny_bind (m := firstArgMember _ _) (wpAny_of_eq (a := Value.none) (by first | rfl | (simp only [firstArgMember]; rfl)) ?_)
    refine wpAny_newObj_type ?_ (by size_fits)
    simp only [raiseNew]
    refine wpAny_bind (wpAny_handled ?_)
    rw [show A.in1.handled = none from hh]
    refine wpAny_bind (wpAny_pure (wpAny_throw ?_))
    refine wpAny_bind (wpAny_isInstance (T := "StopIteration") (b := true) ⟨_, Heap.get?_push_size _ rfl, rfl⟩ isSubtype_stop ?_)
    exact wpAny_pure (h2 rfl _ ((SE.push _).push _))
  · have e : (Str.ofString "" == c) = false := by simpa using fun e => hc e.symm
    rw [e, if_pos (by decide)]
    exact wpAny_pure ⟨_, rfl, wpAny_pure (h1 hc)⟩
end
end Mine
end

section
open PySem PySem.W PySem.Spec PySem.Calls PyProof.Rows
local macro_rules | `(tactic| k_all) => `(tactic| first | (with_reducible assumption) | assumption | exact Mine.neAll (by assumption) (by omega))
section
open PySem PySem.W PySem.Spec PySem.Calls PyProof.Rows
namespace Mine
theorem News.re {h₀ h : Heap} {L : Addr} {l l' : List (Addr × Obj)} (N : News h₀ L h l) (hs : ∀ p ∈ l', p ∈ l) : News h₀ L h l' := fun p hp => N p (hs p hp)
/-- a contract of a def of the text, of its code -/
noncomputable abbrev CtC (w : World) (f : Addr) (vs : List Value) (news : List (Addr × Obj)) (d u : Nat) (Post : Value → List (Addr × Obj) → Prop) : Prop :=
  ∀ (dp un : Nat) (gd : Option (List Code)) (cn : Str) (cs : Scope) (a : Addr) (ccd : Value) (cl : List (Str × Addr)) (outer : List Env) (A₀ : Around) (base h₀ : Heap) (L : Addr) (m : Str → Option Value) (s : Shared) (Q : Value → Shared → Prop) (E : Value → Shared → Prop)
    (p : Program) (loose : List Str) (mean : ExcName → Option Value) (mg mb : Str → Option Value),
    Below A₀ base outer h₀ → Fr h₀ L s.heap m → (hd.heap_39 w.params).In h₀ → News h₀ L s.heap news → Top p loose mean mg mb h₀ → cs.kind = .function → dp + d < recursionLimit → un + u < cLine →
    (∀ (r : Value) (news' : List (Addr × Obj)) (h' : Heap) (tk' : Nat), Post r news' → Fr h₀ L h' m → News h₀ L h' news' → Q r { s with heap := h', toks := tk' }) →
    codeAny (model PySem.Challenge.rw_pe0151_01.row.prog w) (ktrTop dp un gd cn cs L a ccd cl outer) (.call (.ref f) ⟨vs, []⟩) (fun r s' => match r with | .ok (.ret v) => Q v s' | .ok _ => False | .error e => E e s') s
theorem CtC.ct {w : World} {f : Addr} {vs : List Value} {news : List (Addr × Obj)} {d u : Nat} {Post : Value → List (Addr × Obj) → Prop} (c : CtC w f vs news d u Post) : Ct w f vs news d u Post :=
  fun dp un gd cn cs a ccd cl outer A₀ base h₀ L m s Q E p loose mean mg mb B F X N T hk hd hu ret => wpAny_call (c dp un gd cn cs a ccd cl outer A₀ base h₀ L m s Q E p loose mean mg mb B F X N T hk hd hu ret)
noncomputable abbrev sl1 (tx : Str) (pos : Nat) : Str := Txt.slice tx (some (pos : Int)) (some ((pos : Int) + 1))
theorem rc_code {w : World} {tx : Str} {x d D f fr la l pos : Nat} {ln : Int} {q1 q2 q3 q4 : Int} {t1 t2 t3 t4 t5 t6 tp : Tok} {k : Nat} {oD fo ofr : Obj} {fd fd2 : FuncData} {fx rest : List (Addr × Obj)}
    (hD : OneName (.ref fr) oD) (hc : fo.cls = .type "function") (hdc : fo.dict = some D) (hfd : fo.data = .func fd) (hfr : ofr.data = .func fd2) (hrd : RdOk w tx fr la ((fr, ofr) :: fx)) (hp : pos ≤ tx.length)
    (o1 : la < f) (o2 : f < D) (o3 : D < d) (o4 : d < x) (o5 : la < fr) (o6 : fr < d) (hfl : ∀ p ∈ fx ++ rest, p.1 ≠ la) (hfd' : ∀ p ∈ fx ++ rest, p.1 ≠ d) :
    CtC w 49 [.ref x] ((x, instObj 66 d) :: (d, dictOf (lexDict q1 q2 q3 q4 t1 t2 t3 t4 t5 t6 ln f l) 4) :: (D, oD) :: (f, fo) :: (la, listOf #[.int pos tp] k) :: (fr, ofr) :: (fx ++ rest)) 3 20
      (fun r news' => ∃ t' tp' ln' t2', r = .str (sl1 tx pos) t' ∧ ln' = (if sl1 tx pos = Str.ofString "\n" then ln + 1 else ln) ∧
        news' = (x, instObj 66 d) :: (d, dictOf (lexDict q1 q2 q3 q4 t1 t2' t3 t4 t5 t6 ln' f l) 4) :: (D, oD) :: (f, fo) :: (la, listOf #[.int ((pos : Int) + (sl1 tx pos).length) tp'] k) :: (fr, ofr) :: (fx ++ rest)) := by
  unfold CtC
  k_fill
  w_top off
  intro dp un gd cn cs a' ccd cl outer A₀ base h₀ L m s Q E p loose mean mg mb B F X N T hk hd hu hret
  (k_dflt cell_enter)
  repeat (first | (k_unfold; (try dsimp only)) | (k_end; wrow_close) | walk1 | (dsimp only; walk1) | (leave1; walk_say "STEP leave1"; try dsimp only) | fail "no step")
  obtain ⟨frc, frd, frdat, frsl⟩ := ofr
  dsimp only at hfr
  subst hfr
  refine fnMeth_K (by assumption) (by k_mem) (by k_mem) hc hdc hfd hD ?_
  intro tk1
  dsimp only
  with_unfolding_all refine callWith_F (FnAt.of (by k_asm) (by k_mem)) ?_
  repeat (first | (k_unfold; (try dsimp only)) | (k_end; wrow_close) | walk1 | (dsimp only; walk1) | (leave1; walk_say "STEP leave1"; try dsimp only) | fail "no step")
  rename News _ _ _ _ => N1
  have N1 := News.re (l' := (la, listOf #[.int (pos : Int) tp] k) :: (((fr, ⟨frc, frd, .func fd2, frsl⟩) :: fx) ++ ((x, instObj 66 d) :: (d, dictOf (lexDict q1 q2 q3 q4 t1 t2 t3 t4 t5 t6 ln f l) 4) :: (D, oD) :: (f, fo) :: rest))) N1 (by (intro p hp; simp only [List.mem_cons, List.mem_append, List.cons_append] at hp ⊢; grind))
  refine (hrd pos tp _ k _ hp ?hx).use (by k_asm) (by k_asm) (by k_asm) N1 (by k_asm) rfl (by ktr_room) (by ktr_units) ?_
  case hx => 
    intro p hp
    rcases List.mem_cons.mp hp with rfl | hp
    · show x ≠ la; omega
    rcases List.mem_cons.mp hp with rfl | hp
    · show d ≠ la; omega
    rcases List.mem_cons.mp hp with rfl | hp
    · show D ≠ la; omega
    rcases List.mem_cons.mp hp with rfl | hp
    · show f ≠ la; omega
    exact hfl p (List.mem_append_right _ hp)
  rintro r news' h2 tk2 ⟨t', tp', rfl, rfl⟩ F2 N2
  clear N1
  have N2 := News.re (l' := (x, instObj 66 d) :: (d, dictOf (lexDict q1 q2 q3 q4 t1 t2 t3 t4 t5 t6 ln f l) 4) :: (D, oD) :: (f, fo) :: (la, listOf #[.int ((pos : Int) + (sl1 tx pos).length) tp'] k) :: (fr, ⟨frc, frd, .func fd2, frsl⟩) :: (fx ++ rest)) N2 (by (intro p hp; simp only [List.mem_cons, List.mem_append, List.cons_append] at hp ⊢; grind))
  dsimp only
  repeat (first | (k_unfold; (try dsimp only)) | (k_end; wrow_close) | walk1 | (dsimp only; walk1) | (leave1; walk_say "STEP leave1"; try dsimp only) | fail "no step")
  repeat (first | (k_unfold; (try dsimp only)) | (k_end; wrow_close) | walk1 | (dsimp only; walk1) | (leave1; walk_say "STEP leave1"; try dsimp only) | fail "no step")
  rotate_left
  repeat (first | (k_unfold; (try dsimp only)) | (k_end; wrow_close) | walk1 | (dsimp only; walk1) | (leave1; walk_say "STEP leave1"; try dsimp only) | fail "no step")
  all_goals
    rename News h₀ _ _ _ => kN
    rename Fr h₀ _ _ _ => kF
    rename (_ == _) = _ => hb
    refine hret _ _ _ _ ⟨_, _, _, _, rfl, ?_, rfl⟩ kF kN
    simp only [beq_iff_eq, beq_eq_false_iff_ne] at hb
    first | exact (if_pos hb).symm | exact (if_neg hb).symm
end Mine
end

section
open PySem PySem.W PySem.Spec PySem.Calls PyProof.Rows
namespace Mine
theorem allLt_to {d : Addr} : ∀ {l : List (Addr × Obj)}, AllLt d l → ∀ p ∈ l, p.1 < d
  | [], _ => fun _ hp => nomatch hp
  | _ :: _, h => fun q hq => (List.mem_cons.mp hq).elim (fun e => e ▸ h.1) fun hq => allLt_to h.2 q hq
theorem ciMake_K {prog : Program} {w : World} {A : Around} {E : Value → Shared → Prop} {s : Shared} {h₀ : Heap} {L q : Addr} {m : Str → Option Value} {news : List (Addr × Obj)} {t : Tok} {oq : Obj} {Q : Value → Shared → Prop}
    (F : Fr h₀ L s.heap m) (N : News h₀ L s.heap news) (hm : (q, oq) ∈ news) (hc : oq.cls = .type "method")
    (h : ∀ (I : Nat) (t0 : Tok) h', t0 = t → Fr h₀ L h' m → News h₀ L h' ((I, ciObj q t0) :: news) → (∀ p ∈ news, p.1 < I) → Q (.ref I) { s with heap := h' }) :
    wpAny (model prog w) A (call (.builtin "iter") [.ref q, .str (Str.ofString "") t]) Q E s :=
  ci_make (N _ hm).1 hc (h _ _ _ rfl (F.push _) (News.push F N _) fun p hp => Heap.lt_size (N p hp).1)
theorem ciIter_K {prog : Program} {w : World} {A : Around} {E : Value → Shared → Prop} {s : Shared} {h₀ : Heap} {L I q : Addr} {news : List (Addr × Obj)} {t : Tok} {Q : Value → Shared → Prop}
    (N : News h₀ L s.heap news) (hm : (I, ciObj q t) ∈ news) (h : Q (.ref I) s) : wpAny (model prog w) A (pyIter (.ref I)) Q E s := ci_iter (N _ hm).1 h
structure LexOk (w : World) (tx : Str) (x d D f fr la : Nat) (oD fo ofr : Obj) (fx : List (Addr × Obj)) : Prop where
  hD : OneName (.ref fr) oD
  hc : fo.cls = .type "function"
  hdc : fo.dict = some D
  hfd : ∃ fd, fo.data = .func fd
  hfr : ∃ fd, ofr.data = .func fd
  hrd : RdOk w tx fr la ((fr, ofr) :: fx)
  o1 : la < f
  o2 : f < D
  o3 : D < d
  o4 : d < x
  o5 : la < fr
  o6 : fr < d
  nl : ∀ p ∈ fx, p.1 ≠ la
  nd : ∀ p ∈ fx, p.1 ≠ d
/-- the lexer's part of the ledger -/
noncomputable abbrev LX (x d D f la : Nat) (fr l : Nat) (q1 q2 q3 q4 : Int) (t1 t3 t4 t5 t6 : Tok) (k : Nat) (oD fo ofr : Obj) (fx : List (Addr × Obj)) (ln : Int) (t2 : Tok) (pos : Nat) (tp : Tok) (rest : List (Addr × Obj)) : List (Addr × Obj) :=
  (x, instObj 66 d) :: (d, dictOf (lexDict q1 q2 q3 q4 t1 t2 t3 t4 t5 t6 ln f l) 4) :: (D, oD) :: (f, fo) :: (la, listOf #[.int (pos : Int) tp] k) :: (fr, ofr) :: (fx ++ rest)
noncomputable abbrev meth (x : Nat) : Obj := methodObj (.ref 49) (.ref x)
theorem fn49 (w : World) : ∃ o fd, (hd.heap_39 w.params).lookup 49 = some o ∧ o.data = .func fd := ⟨_, _, rfl, rfl⟩
section
variable {w : World} {tx : Str} {x d D f fr la l : Nat} {q1 q2 q3 q4 : Int} {t1 t3 t4 t5 t6 : Tok} {k : Nat} {oD fo ofr : Obj} {fx rest : List (Addr × Obj)}
theorem nx_K (O : LexOk w tx x d D f fr la oD fo ofr fx) {ln : Int} {t2 tp t0 : Tok} {pos : Nat} {I q : Nat} (hpos : pos ≤ tx.length) (hI : x < I) (hq : d < q) (hIr : ∀ p ∈ fx ++ rest, p.1 < I) (hl : ∀ p ∈ rest, p.1 ≠ la) (hd' : ∀ p ∈ rest, p.1 ≠ d)
    {dp un : Nat} {gd : Option (List Code)} {cn : Str} {cs : Scope} {a : Addr} {ccd : Value} {cl : List (Str × Addr)} {outer : List Env} {A₀ : Around} {base h₀ : Heap} {L : Addr} {m : Str → Option Value} {s : Shared} {Q : Option Value → Shared → Prop} {E : Value → Shared → Prop}
    {p : Program} {loose : List Str} {mean : ExcName → Option Value} {mg mb : Str → Option Value}
    (B : Below A₀ base outer h₀) (F : Fr h₀ L s.heap m) (X : (hd.heap_39 w.params).In h₀) (N : News h₀ L s.heap ((I, ciObj q t0) :: (q, meth x) :: LX x d D f la fr l q1 q2 q3 q4 t1 t3 t4 t5 t6 k oD fo ofr fx ln t2 pos tp rest)) (T : Top p loose mean mg mb h₀) (hk : cs.kind = .function) (hd : dp + 3 < recursionLimit) (hu : un + 21 < cLine)
    (item : sl1 tx pos ≠ Str.ofString "" → ∀ (h' : Heap) (tk' : Nat) (t' t2' tp' : Tok) (pos' : Nat) (ln' : Int), pos' = pos + (sl1 tx pos).length → ln' = (if sl1 tx pos = Str.ofString "\n" then ln + 1 else ln) → Fr h₀ L h' m →
      News h₀ L h' ((I, ciObj q t0) :: (q, meth x) :: LX x d D f la fr l q1 q2 q3 q4 t1 t3 t4 t5 t6 k oD fo ofr fx ln' t2' pos' tp' rest) → Q (some (.str (sl1 tx pos) t')) { s with heap := h', toks := tk' })
    (fin : sl1 tx pos = Str.ofString "" → ∀ (h' : Heap) (tk' : Nat) (t2' tp' : Tok), Fr h₀ L h' m →
      News h₀ L h' (LX x d D f la fr l q1 q2 q3 q4 t1 t3 t4 t5 t6 k oD fo ofr fx ln t2' pos tp' rest) → Q none { s with heap := h', toks := tk' }) :
    wpAny (model PySem.Challenge.rw_pe0151_01.row.prog w) (ktrTop dp un gd cn cs L a ccd cl outer) (pyNext (.ref I)) Q E s := by
  obtain ⟨og, fdg, hog, hfdg⟩ := fn49 w
  obtain ⟨fd, hfd⟩ := O.hfd
  obtain ⟨fd2, hfr⟩ := O.hfr
  have o1 := O.o1; have o2 := O.o2; have o3 := O.o3; have o4 := O.o4; have o5 := O.o5; have o6 := O.o6
  have hg : ∀ {h : Heap}, Fr h₀ L h m → h.get? 49 = some og := fun F => (X.keeps F.keep) _ _ hog
  refine ci_next (t := t0) (q := q) (x := .ref x) rfl (N _ (.head _)).1 (N _ (.tail _ (.head _))).1 (hg F) hfdg ?_
  have N1 := News.re (l' := (x, instObj 66 d) :: (d, dictOf (lexDict q1 q2 q3 q4 t1 t2 t3 t4 t5 t6 ln f l) 4) :: (D, oD) :: (f, fo) :: (la, listOf #[.int (pos : Int) tp] k) :: (fr, ofr) :: (fx ++ ((I, ciObj q t0) :: (q, meth x) :: rest))) N (by (intro p hp; simp only [List.mem_cons, List.mem_append, List.cons_append] at hp ⊢; grind))
  refine codeAny_mono (rc_code (fx := fx) (rest := (I, ciObj q t0) :: (q, meth x) :: rest) O.hD O.hc O.hdc hfd hfr O.hrd hpos o1 o2 o3 o4 o5 o6 ?ha ?hb
    dp (un + 1) gd cn cs a ccd cl outer A₀ base h₀ L m s (fun v s' => ∃ c u, v = .str c u ∧ s'.heap.get? I = some (ciObj q t0) ∧ s'.heap.get? q = some (meth x) ∧ s'.heap.get? 49 = some og ∧
          (c ≠ Str.ofString "" → Q (some v) s') ∧ (c = Str.ofString "" → ∀ h', Heap.ExtBut I s'.heap h' → Q none { s' with heap := h' })) (fun _ _ => False) p loose mean mg mb B F X N1 T hk (by omega) (by omega) ?ret) ?conv
  case ha =>
    intro p hp
    rcases List.mem_append.mp hp with hp | hp
    · exact O.nl p hp
    rcases List.mem_cons.mp hp with rfl | hp
    · show I ≠ la; omega
    rcases List.mem_cons.mp hp with rfl | hp
    · show q ≠ la; omega
    exact hl p hp
  case hb =>
    intro p hp
    rcases List.mem_append.mp hp with hp | hp
    · exact O.nd p hp
    rcases List.mem_cons.mp hp with rfl | hp
    · show I ≠ d; omega
    rcases List.mem_cons.mp hp with rfl | hp
    · show q ≠ d; omega
    exact hd' p hp
  case ret =>
    rintro r news' h' tk' ⟨t', tp', ln', t2', rfl, hln, rfl⟩ F2 N2
    have N2 := News.re (l' := (I, ciObj q t0) :: (q, meth x) :: LX x d D f la fr l q1 q2 q3 q4 t1 t3 t4 t5 t6 k oD fo ofr fx ln' t2' (pos + (sl1 tx pos).length) tp' rest) N2 (by
      intro p hp; simp only [List.mem_cons, List.mem_append, Int.natCast_add] at hp ⊢; grind)
    refine ⟨_, _, rfl, (N2 _ (.head _)).1, (N2 _ (.tail _ (.head _))).1, hg F2, fun e => item e _ _ _ _ _ _ _ rfl hln F2 N2, fun e h'' he => ?_⟩
    have e1 : (sl1 tx pos).length = 0 := by rw [e]; rfl
    have e2 : ln' = ln := by rw [hln, e, if_neg (by decide)]
    rw [e1, Nat.add_zero, e2] at N2
    have hIz := N2 _ (.head _)
    refine fin e _ _ _ _ ⟨?_, fun b o hb => he _ _ ?_ (F2.keep b o hb), F2.above⟩ fun p hp => ⟨he _ _ ?_ (N2 _ (.tail _ (.tail _ hp))).1, (N2 _ (.tail _ (.tail _ hp))).2⟩
    · obtain ⟨oL, es, ep, eL, rL⟩ := F2.ns
      exact ⟨oL, es, ep, he _ _ (fun z => hIz.2.1 z.symm) eL, rL⟩
    · rintro rfl
      rw [hIz.2.2] at hb; cases hb
    · rcases List.mem_cons.mp hp with rfl | hp
      · show x ≠ I; omega
      rcases List.mem_cons.mp hp with rfl | hp
      · show d ≠ I; omega
      rcases List.mem_cons.mp hp with rfl | hp
      · show D ≠ I; omega
      rcases List.mem_cons.mp hp with rfl | hp
      · show f ≠ I; omega
      rcases List.mem_cons.mp hp with rfl | hp
      · show la ≠ I; omega
      rcases List.mem_cons.mp hp with rfl | hp
      · show fr ≠ I; omega
      exact Nat.ne_of_lt (hIr p hp)
  case conv =>
    intro r s' hr
    rcases r with e | (_ | _ | _ | v)
    · exact hr
    · exact hr
    · exact hr
    · exact hr
    exact hr
theorem nx_item {ln : Int} {t2 tp t0 : Tok} {pos : Nat} {c : Str} {I q : Nat}
    {dp un : Nat} {gd : Option (List Code)} {cn : Str} {cs : Scope} {a : Addr} {ccd : Value} {cl : List (Str × Addr)} {outer : List Env} {A₀ : Around} {base h₀ : Heap} {L : Addr} {m : Str → Option Value} {s : Shared} {Q : Option Value → Shared → Prop} {E : Value → Shared → Prop}
    {p : Program} {loose : List Str} {mean : ExcName → Option Value} {mg mb : Str → Option Value}
    (O : LexOk w tx x d D f fr la oD fo ofr fx) (N : News h₀ L s.heap ((I, ciObj q t0) :: (q, meth x) :: LX x d D f la fr l q1 q2 q3 q4 t1 t3 t4 t5 t6 k oD fo ofr fx ln t2 pos tp rest)) (hc : sl1 tx pos = c) (hc1 : c.length = 1) (hcn : c ≠ Str.ofString "\n") (hpos : pos ≤ tx.length) (hI : x < I) (hq : d < q) (hIr : ∀ p ∈ fx ++ rest, p.1 < I) (hl : ∀ p ∈ rest, p.1 ≠ la) (hd' : ∀ p ∈ rest, p.1 ≠ d)
    (B : Below A₀ base outer h₀) (F : Fr h₀ L s.heap m) (X : (hd.heap_39 w.params).In h₀) (T : Top p loose mean mg mb h₀) (hk : cs.kind = .function) (hd : dp + 3 < recursionLimit) (hu : un + 21 < cLine)
    (item : ∀ (h' : Heap) (tk' : Nat) (t' t2' tp' : Tok), Fr h₀ L h' m →
      News h₀ L h' ((I, ciObj q t0) :: (q, meth x) :: LX x d D f la fr l q1 q2 q3 q4 t1 t3 t4 t5 t6 k oD fo ofr fx ln t2' (pos + 1) tp' rest) → Q (some (.str c t')) { s with heap := h', toks := tk' }) :
    wpAny (model PySem.Challenge.rw_pe0151_01.row.prog w) (ktrTop dp un gd cn cs L a ccd cl outer) (pyNext (.ref I)) Q E s := by
  subst hc
  refine nx_K O hpos hI hq hIr hl hd' B F X N T hk hd hu (fun _ h' tk' t' t2' tp' pos' ln' e1 e2 F' N' => ?_) (fun e => ?_)
  · rw [hc1] at e1
    rw [if_neg hcn] at e2
    subst e1 e2
    exact item _ _ _ _ _ F' N'
  · rw [e] at hc1; exact absurd hc1 (by decide)
theorem nx_nl {ln : Int} {t2 tp t0 : Tok} {pos : Nat} {I q : Nat}
    {dp un : Nat} {gd : Option (List Code)} {cn : Str} {cs : Scope} {a : Addr} {ccd : Value} {cl : List (Str × Addr)} {outer : List Env} {A₀ : Around} {base h₀ : Heap} {L : Addr} {m : Str → Option Value} {s : Shared} {Q : Option Value → Shared → Prop} {E : Value → Shared → Prop}
    {p : Program} {loose : List Str} {mean : ExcName → Option Value} {mg mb : Str → Option Value}
    (O : LexOk w tx x d D f fr la oD fo ofr fx) (N : News h₀ L s.heap ((I, ciObj q t0) :: (q, meth x) :: LX x d D f la fr l q1 q2 q3 q4 t1 t3 t4 t5 t6 k oD fo ofr fx ln t2 pos tp rest)) (hc : sl1 tx pos = Str.ofString "\n") (hpos : pos ≤ tx.length) (hI : x < I) (hq : d < q) (hIr : ∀ p ∈ fx ++ rest, p.1 < I) (hl : ∀ p ∈ rest, p.1 ≠ la) (hd' : ∀ p ∈ rest, p.1 ≠ d)
    (B : Below A₀ base outer h₀) (F : Fr h₀ L s.heap m) (X : (hd.heap_39 w.params).In h₀) (T : Top p loose mean mg mb h₀) (hk : cs.kind = .function) (hd : dp + 3 < recursionLimit) (hu : un + 21 < cLine)
    (item : ∀ (h' : Heap) (tk' : Nat) (t' t2' tp' : Tok), Fr h₀ L h' m →
      News h₀ L h' ((I, ciObj q t0) :: (q, meth x) :: LX x d D f la fr l q1 q2 q3 q4 t1 t3 t4 t5 t6 k oD fo ofr fx (ln + 1) t2' (pos + 1) tp' rest) → Q (some (.str (Str.ofString "\n") t')) { s with heap := h', toks := tk' }) :
    wpAny (model PySem.Challenge.rw_pe0151_01.row.prog w) (ktrTop dp un gd cn cs L a ccd cl outer) (pyNext (.ref I)) Q E s := by
  refine nx_K O hpos hI hq hIr hl hd' B F X N T hk hd hu (fun _ h' tk' t' t2' tp' pos' ln' e1 e2 F' N' => ?_) (fun e => ?_)
  · rw [hc] at e1 e2 ⊢
    rw [if_pos rfl] at e2
    have e1 : pos' = pos + 1 := e1
    subst e1 e2
    exact item _ _ _ _ _ F' N'
  · rw [e] at hc; exact absurd hc (by decide)
theorem nx_end {ln : Int} {t2 tp t0 : Tok} {pos : Nat} {I q : Nat}
    {dp un : Nat} {gd : Option (List Code)} {cn : Str} {cs : Scope} {a : Addr} {ccd : Value} {cl : List (Str × Addr)} {outer : List Env} {A₀ : Around} {base h₀ : Heap} {L : Addr} {m : Str → Option Value} {s : Shared} {Q : Option Value → Shared → Prop} {E : Value → Shared → Prop}
    {p : Program} {loose : List Str} {mean : ExcName → Option Value} {mg mb : Str → Option Value}
    (O : LexOk w tx x d D f fr la oD fo ofr fx) (N : News h₀ L s.heap ((I, ciObj q t0) :: (q, meth x) :: LX x d D f la fr l q1 q2 q3 q4 t1 t3 t4 t5 t6 k oD fo ofr fx ln t2 pos tp rest)) (hc : sl1 tx pos = Str.ofString "") (hpos : pos ≤ tx.length) (hI : x < I) (hq : d < q) (hIr : ∀ p ∈ fx ++ rest, p.1 < I) (hl : ∀ p ∈ rest, p.1 ≠ la) (hd' : ∀ p ∈ rest, p.1 ≠ d)
    (B : Below A₀ base outer h₀) (F : Fr h₀ L s.heap m) (X : (hd.heap_39 w.params).In h₀) (T : Top p loose mean mg mb h₀) (hk : cs.kind = .function) (hd : dp + 3 < recursionLimit) (hu : un + 21 < cLine)
    (fin : ∀ (h' : Heap) (tk' : Nat) (t2' tp' : Tok), Fr h₀ L h' m →
      News h₀ L h' (LX x d D f la fr l q1 q2 q3 q4 t1 t3 t4 t5 t6 k oD fo ofr fx ln t2' pos tp' rest) → Q none { s with heap := h', toks := tk' }) :
    wpAny (model PySem.Challenge.rw_pe0151_01.row.prog w) (ktrTop dp un gd cn cs L a ccd cl outer) (pyNext (.ref I)) Q E s := by
  refine nx_K O hpos hI hq hIr hl hd' B F X N T hk hd hu (fun e => absurd hc e) (fun _ h' tk' t2' tp' F' N' => fin _ _ _ _ F' N')
/-- a sign read by the lexer itself, within get_token -/
theorem rd_item (O : LexOk w tx x d D f fr la oD fo ofr fx) {ln : Int} {t2 tp t0 : Tok} {pos : Nat} {c : Str} {I q : Nat} (hc : sl1 tx pos = c) (hc1 : c.length = 1) (hcn : c ≠ Str.ofString "\n") (hpos : pos ≤ tx.length) (hI : x < I) (hq : d < q) (hl : ∀ p ∈ rest, p.1 ≠ la) (hd' : ∀ p ∈ rest, p.1 ≠ d) :
    Ct w 49 [.ref x] ((I, ciObj q t0) :: (q, meth x) :: LX x d D f la fr l q1 q2 q3 q4 t1 t3 t4 t5 t6 k oD fo ofr fx ln t2 pos tp rest) 3 20
      (fun r news' => ∃ t' t2' tp', r = .str c t' ∧ news' = ((I, ciObj q t0) :: (q, meth x) :: LX x d D f la fr l q1 q2 q3 q4 t1 t3 t4 t5 t6 k oD fo ofr fx ln t2' (pos + 1) tp' rest)) := by
  subst hc
  obtain ⟨fd, hfd⟩ := O.hfd
  obtain ⟨fd2, hfr⟩ := O.hfr
  have o1 := O.o1; have o2 := O.o2; have o3 := O.o3; have o4 := O.o4; have o5 := O.o5; have o6 := O.o6
  intro dp un gd cn cs a ccd cl outer A₀ base h₀ L m s Q E p loose mean mg mb B F X N T hk hd hu ret
  have N1 := News.re (l' := (x, instObj 66 d) :: (d, dictOf (lexDict q1 q2 q3 q4 t1 t2 t3 t4 t5 t6 ln f l) 4) :: (D, oD) :: (f, fo) :: (la, listOf #[.int (pos : Int) tp] k) :: (fr, ofr) :: (fx ++ ((I, ciObj q t0) :: (q, meth x) :: rest))) N (by (intro p hp; simp only [List.mem_cons, List.mem_append, List.cons_append] at hp ⊢; grind))
  refine (rc_code (fx := fx) (rest := (I, ciObj q t0) :: (q, meth x) :: rest) O.hD O.hc O.hdc hfd hfr O.hrd hpos o1 o2 o3 o4 o5 o6 ?ha ?hb).ct.use B F X N1 T hk hd hu ?ret
  case ha =>
    intro p hp
    rcases List.mem_append.mp hp with hp | hp
    · exact O.nl p hp
    rcases List.mem_cons.mp hp with rfl | hp
    · show I ≠ la; omega
    rcases List.mem_cons.mp hp with rfl | hp
    · show q ≠ la; omega
    exact hl p hp
  case hb =>
    intro p hp
    rcases List.mem_append.mp hp with hp | hp
    · exact O.nd p hp
    rcases List.mem_cons.mp hp with rfl | hp
    · show I ≠ d; omega
    rcases List.mem_cons.mp hp with rfl | hp
    · show q ≠ d; omega
    exact hd' p hp
  case ret =>
    rintro r news' h' tk' ⟨t', tp', ln', t2', rfl, hln, rfl⟩ F2 N2
    rw [if_neg hcn] at hln
    rw [hc1] at N2
    subst hln
    have N2 := News.re (l' := (I, ciObj q t0) :: (q, meth x) :: LX x d D f la fr l q1 q2 q3 q4 t1 t3 t4 t5 t6 k oD fo ofr fx ln' t2' (pos + 1) tp' rest) N2 (by
      intro p hp; simp only [List.mem_cons, List.mem_append, Int.natCast_add] at hp ⊢; grind)
    exact ret _ _ _ _ ⟨_, _, _, rfl, rfl⟩ F2 N2
theorem rd_use {ln : Int} {t2 tp t0 : Tok} {pos : Nat} {c : Str} {I q : Nat}
    {dp un : Nat} {gd : Option (List Code)} {cn : Str} {cs : Scope} {a : Addr} {ccd : Value} {cl : List (Str × Addr)} {outer : List Env} {A₀ : Around} {base h₀ : Heap} {L : Addr} {m : Str → Option Value} {s : Shared} {Q : Value → Shared → Prop} {E : Value → Shared → Prop}
    {p : Program} {loose : List Str} {mean : ExcName → Option Value} {mg mb : Str → Option Value}
    (O : LexOk w tx x d D f fr la oD fo ofr fx) (N : News h₀ L s.heap ((I, ciObj q t0) :: (q, meth x) :: LX x d D f la fr l q1 q2 q3 q4 t1 t3 t4 t5 t6 k oD fo ofr fx ln t2 pos tp rest)) (hc : sl1 tx pos = c) (hc1 : c.length = 1) (hcn : c ≠ Str.ofString "\n") (hpos : pos ≤ tx.length) (hI : x < I) (hq : d < q) (hl : ∀ p ∈ rest, p.1 ≠ la) (hd' : ∀ p ∈ rest, p.1 ≠ d)
    (B : Below A₀ base outer h₀) (F : Fr h₀ L s.heap m) (X : (hd.heap_39 w.params).In h₀) (T : Top p loose mean mg mb h₀) (hk : cs.kind = .function) (hd : dp + 3 < recursionLimit) (hu : un + 20 < cLine)
    (item : ∀ (h' : Heap) (tk' : Nat) (t' t2' tp' : Tok), Fr h₀ L h' m →
      News h₀ L h' ((I, ciObj q t0) :: (q, meth x) :: LX x d D f la fr l q1 q2 q3 q4 t1 t3 t4 t5 t6 k oD fo ofr fx ln t2' (pos + 1) tp' rest) → Q (.str c t') { s with heap := h', toks := tk' }) :
    wpAny (model PySem.Challenge.rw_pe0151_01.row.prog w) (ktrTop dp un gd cn cs L a ccd cl outer) (call (.ref 49) [.ref x]) Q E s :=
  (rd_item O hc hc1 hcn hpos hI hq hl hd').use B F X N T hk hd hu (by
    rintro r news' h' tk' ⟨t', t2', tp', rfl, rfl⟩ F' N'
    exact item _ _ _ _ _ F' N')
end
end Mine
end

section
open PySem PySem.W PySem.Spec PySem.Calls PyProof.Rows
namespace Mine
local macro_rules | `(tactic| walk_at "my close") => `(tactic| first | assumption | exact rfl | decide | omega | ktr_room | ktr_units)
local macro_rules | `(tactic| walk_at "my end") => `(tactic| ((try k_sweep); (try dsimp only)))
local macro_rules | `(tactic| walk_at "pyNext ref") => `(tactic| (k_here; first
  | (refine nx_item (by assumption) (by assumption) (by assumption) ?_ ?_ ?_ ?_ ?_ ?_ ?_ ?_ (by k_asm) (by k_asm) ?_ (by k_asm) ?_ ?_ ?_ ?_; (iterate 12 walk_at "my close"); (intro _ _ _ _ _ _ _); walk_at "my end")
  | (refine nx_nl (by assumption) (by assumption) (by assumption) ?_ ?_ ?_ ?_ ?_ ?_ (by k_asm) (by k_asm) ?_ (by k_asm) ?_ ?_ ?_ ?_; (iterate 10 walk_at "my close"); (intro _ _ _ _ _ _ _); walk_at "my end")
  | (refine nx_end (by assumption) (by assumption) (by assumption) ?_ ?_ ?_ ?_ ?_ ?_ (by k_asm) (by k_asm) ?_ (by k_asm) ?_ ?_ ?_ ?_; (iterate 10 walk_at "my close"); (intro _ _ _ _ _ _); walk_at "my end")))
local macro_rules | `(tactic| walk_at "pyIter ref") => `(tactic| (k_here; refine' ciIter_K ?kN ?km ?_; (case kN => assumption); (case km => k_mem)))
local macro_rules | `(tactic| walk_at "exec For Name Name cons nil") => `(tactic| (k_here; refine owit_for ?_))
local macro_rules | `(tactic| walk_at "call ref") => `(tactic| (k_here; (try dsimp only [List.append_nil, List.cons_append, List.nil_append]); (refine rd_use (by assumption) (by assumption) (by assumption) ?_ ?_ ?_ ?_ ?_ ?_ ?_ (by k_asm) (by k_asm) ?_ (by k_asm) ?_ ?_ ?_ ?_; (iterate 11 walk_at "my close"); (intro _ _ _ _ _ _ _); walk_at "my end")))
theorem in_dec {prog : Program} {w : World} {A : Around} {E : Value → Shared → Prop} {s : Shared} {x y : Str} {t u : Tok} {b : Bool} {Q : Value → Shared → Prop} (h : (!(Builtin.Str.occurrences y x 0 y.length 1).isEmpty) = b) (hq : Q (.bool b) s) : wpAny (model prog w) A (compareOp .In (.str x t) (.str y u)) Q E s :=
  in_str (by rw [h]; exact hq)
local macro_rules | `(tactic| walk_at "compareOp In str str") => `(tactic| first | refine in_dec (b := false) (by decide +kernel) ?_ | refine in_dec (b := true) (by decide +kernel) ?_)
section
variable {w : World} {tx : Str} {x d D f fr la l : Nat} {q1 q2 q3 q4 : Int} {t1 t3 t4 t5 t6 : Tok} {k : Nat} {oD fo ofr : Obj} {fx rest : List (Addr × Obj)}
theorem led_out {I q : Nat} {a b o : Obj} {h₀ h : Heap} {L : Addr} {ln : Int} {t2 tp : Tok} {pos : Nat} (N : News h₀ L h ((I, a) :: (q, b) :: LX x d D f la fr l q1 q2 q3 q4 t1 t3 t4 t5 t6 k oD fo ofr fx ln t2 pos tp ((l, o) :: rest))) :
    News h₀ L h ((l, o) :: LX x d D f la fr l q1 q2 q3 q4 t1 t3 t4 t5 t6 k oD fo ofr fx ln t2 pos tp rest) := News.re N (by (intro p hp; simp only [List.mem_cons, List.mem_append, List.cons_append] at hp ⊢; grind))
theorem led_out2 {o : Obj} {h₀ h : Heap} {L : Addr} {ln : Int} {t2 tp : Tok} {pos : Nat} (N : News h₀ L h (LX x d D f la fr l q1 q2 q3 q4 t1 t3 t4 t5 t6 k oD fo ofr fx ln t2 pos tp ((l, o) :: rest))) :
    News h₀ L h ((l, o) :: LX x d D f la fr l q1 q2 q3 q4 t1 t3 t4 t5 t6 k oD fo ofr fx ln t2 pos tp rest) := News.re N (by (intro p hp; simp only [List.mem_cons, List.mem_append, List.cons_append] at hp ⊢; grind))
/-- how a token stands in the text -/
noncomputable def Spelt (tx : Str) (pos : Nat) (ln : Int) (c : Str) (pos' : Nat) (ln' : Int) : Prop :=
  (sl1 tx pos = c ∧ sl1 tx (pos + 1) = Str.ofString " " ∧ pos' = pos + 1 + 1 ∧ ln' = ln ∧ pos + 1 + 1 ≤ tx.length ∧ (c = Str.ofString "A" ∨ c = Str.ofString "a")) ∨
  (sl1 tx pos = Str.ofString "\"" ∧ sl1 tx (pos + 1) = c ∧ sl1 tx (pos + 1 + 1) = Str.ofString "\"" ∧ pos' = pos + 1 + 1 + 1 ∧ ln' = ln ∧ pos + 1 + 1 + 1 ≤ tx.length ∧ (c = Str.ofString "A" ∨ c = Str.ofString "a")) ∨
  (sl1 tx pos = Str.ofString "\\" ∧ sl1 tx (pos + 1) = c ∧ sl1 tx (pos + 1 + 1) = Str.ofString "\n" ∧ pos' = pos + 1 + 1 + 1 ∧ ln' = ln + 1 ∧ pos + 1 + 1 + 1 ≤ tx.length ∧ (c = Str.ofString "A" ∨ c = Str.ofString "a")) ∨
  (sl1 tx pos = Str.ofString "" ∧ pos' = pos ∧ ln' = ln ∧ pos ≤ tx.length ∧ c = Str.ofString "")
theorem tok_ct (O : LexOk w tx x d D f fr la oD fo ofr fx) {c : Str} {ln ln' : Int} {t2 tp : Tok} {pos pos' n : Nat} (hxl : x < l) (hl : ∀ p ∈ rest, p.1 ≠ la) (hd' : ∀ p ∈ rest, p.1 ≠ d) (hs : Spelt tx pos ln c pos' ln') :
    Ct w 56 [.ref x] ((l, listOf #[] n) :: LX x d D f la fr l q1 q2 q3 q4 t1 t3 t4 t5 t6 k oD fo ofr fx ln t2 pos tp rest) 6 60
      (fun r news' => ∃ t' tp' t2', r = .str c t' ∧
        news' = (l, listOf #[] n) :: LX x d D f la fr l q1 q2 q3 q4 t1 t3 t4 t5 t6 k oD fo ofr fx ln' t2' pos' tp' rest) := by
  have o1 := O.o1; have o2 := O.o2; have o3 := O.o3; have o4 := O.o4; have o5 := O.o5; have o6 := O.o6
  unfold Ct
  dsimp only [LX]
  k_fill
  w_top off
  intro dp un gd cn cs a ccd cl outer A₀ base h₀ L m s Q E p loose mean mg mb B F X N T hk hd hu hret
  refine wpAny_call ?_
  (k_dflt cell_enter)
  repeat (first | (k_unfold; (try dsimp only)) | (k_end; wrow_close) | walk1 | (dsimp only; walk1) | (leave1; walk_say "STEP leave1"; try dsimp only) | fail "no step")
  rename_i q hq1 FQ NQ l1
  refine ciMake_K (by assumption) (by assumption) (.head _) rfl ?_
  intro I t0 hp1 ht0 F1 N1 l2
  clear ht0
  k_lt l2
  dsimp only
  have N1 := News.re (l' := (I, ciObj q t0) :: (q, meth x) :: LX x d D f la fr l q1 q2 q3 q4 t1 t3 t4 t5 t6 k oD fo ofr fx ln t2 pos tp ((l, listOf #[] n) :: rest)) N1 (by (intro p hp; simp only [List.mem_cons, List.mem_append, List.cons_append] at hp ⊢; grind))
  clear NQ FQ
  have hIr : ∀ p ∈ fx ++ (l, listOf #[] n) :: rest, p.1 < I := by
    have e := allLt_to l2.2.2.2.2.2.2.2.2
    intro p hp
    rcases List.mem_append.mp hp with hp | hp
    · exact e p (List.mem_append_left _ hp)
    rcases List.mem_cons.mp hp with rfl | hp
    · exact l2.2.1
    exact e p (List.mem_append_right _ hp)
  have hla : ∀ p ∈ (l, listOf #[] n) :: rest, p.1 ≠ la := List.forall_mem_cons.mpr ⟨by show l ≠ la; omega, hl⟩
  have hdd : ∀ p ∈ (l, listOf #[] n) :: rest, p.1 ≠ d := List.forall_mem_cons.mpr ⟨by show l ≠ d; omega, hd'⟩
  have hxI : x < I := l2.2.2.1
  have hdq : d < q := l1.2.2.1
  clear hl hd'
  iterate 5 (first | (k_unfold; (try dsimp only)) | (k_end; wrow_close) | walk1 | (dsimp only; walk1) | (leave1; walk_say "STEP leave1"; try dsimp only) | fail "no step")
  unfold Spelt at hs
  rcases hs with ⟨g0, g1, rfl, rfl, gl, rfl | rfl⟩ | ⟨g0, g1, g2, rfl, rfl, gl, rfl | rfl⟩ | ⟨g0, g1, g2, rfl, rfl, gl, rfl | rfl⟩ | ⟨g0, rfl, rfl, gl, rfl⟩
  all_goals repeat (first | (k_unfold; (try dsimp only)) | (k_end; wrow_close) | walk1 | (dsimp only; walk1) | (leave1; walk_say "STEP leave1"; try dsimp only) | fail "no step")
  all_goals
    rename News h₀ _ _ _ => kN
    rename Fr h₀ _ _ _ => kF
    first
    | exact hret _ _ _ _ ⟨_, _, _, rfl, rfl⟩ kF (led_out kN)
    | exact hret _ _ _ _ ⟨_, _, _, rfl, rfl⟩ kF (led_out2 kN)
end
end Mine
end
end

section
open PySem PySem.W PySem.Spec PySem.Calls PyProof.Rows PySem.SeqAt PyProof.V
namespace Mine
theorem reads_strs {h : Heap} {vs : List Value} {ss : List Str} (hi : StrsAre vs ss) : ReadsAll h vs (ss.map PyData.str) [] := by
  induction hi with
  | nil => exact .nil
  | cons x t _ ih => exact ReadsAll.cons (Reads.str (h := h) x t) ih
theorem lay_strs : ∀ {ss : List Str}, (∀ x ∈ ss, PyData.strOk x = true) → PyData.canLayAll0 (ss.map PyData.str) = true
  | [], _ => by simp [PyData.canLayAll0]
  | x :: r, h => by simp [PyData.canLayAll0, PyData.canLay0, h x (.head _), lay_strs fun y hy => h y (.tail _ hy)]
theorem deep_strs : ∀ ss : List Str, PyData.depthAll (ss.map PyData.str) ≤ 1
  | [] => by simp [PyData.depthAll]
  | _ :: r => by
    have := deep_strs r
    simp only [List.map_cons, PyData.depthAll, PyData.depth]
    omega
theorem mix_strs : ∀ ss : List Str, noMixAll (ss.map PyData.str) (ss.map PyData.str) = true
  | [] => by simp [noMixAll]
  | _ :: r => by simp [noMixAll, noMix, mix_strs r]
theorem shaped_strs {ss : List Str} (h : ∀ x ∈ ss, PyData.strOk x = true) : shaped (.list (ss.map PyData.str)) = true := by
  have h1 := deep_strs ss
  have h2 : PyData.depth (.list (ss.map PyData.str)) ≤ 64 := by simp only [PyData.depth]; omega
  show (PyData.canLay0 (.list (ss.map PyData.str)) && decide (PyData.depth (.list (ss.map PyData.str)) ≤ 64)) = true
  rw [Bool.and_eq_true]
  exact ⟨by simp only [PyData.canLay0]; exact lay_strs h, decide_eq_true h2⟩
/-- two lists of the same texts -/
theorem ne_strs_same {prog : Program} {w : World} {A : Around} {E : Value → Shared → Prop} {s : Shared} {h₀ : Heap} {L a b : Addr} {news : List (Addr × Obj)} {vs us : List Value} {ss : List Str} {n k : Nat} {Q : Value → Shared → Prop} (N : News h₀ L s.heap news)
    (ha : (a, listOf vs.toArray n) ∈ news) (hi : StrsAre vs ss) (hb : (b, listOf us.toArray k) ∈ news) (hi' : StrsAre us ss) (hok : ∀ x ∈ ss, PyData.strOk x = true) (hu : A.units + 64 < cLine) (h : Q (.bool false) s) :
    wpAny (model prog w) A (compareOp .NotEq (.ref a) (.ref b)) Q E s :=
  ne_dataH_same (Reads.list (N _ ha).1 rfl rfl (by simpa using reads_strs hi)) (Reads.list (N _ hb).1 rfl rfl (by simpa using reads_strs hi')) (shaped_strs hok) (shaped_strs hok) hu (by simp only [noMix]; exact mix_strs ss) (by rw [Spec.same_self]; exact h)
theorem ok_letter (m : Int) : PyData.strOk (letter m) = true := by unfold letter; split <;> decide +kernel
/-- the spelt letters of a file -/
noncomputable def spelt (place whole : Int) (i : Nat) : Str := spell (letter (place + i)) (((i : Int) + whole).fmod 3)
theorem spelt_len (p w : Int) (i : Nat) : (spelt p w i).length ≤ 3 := by
  unfold spelt spell letter
  split <;> split <;> (try split) <;> decide
theorem spelt_sum (p w : Int) : (((List.range 8).map (spelt p w)).map (·.length)).sum + ((List.range 8).map (spelt p w)).length * (Str.ofString "").length ≤ 16777216 := by
  have h := spelt_len p w
  have h0 := h 0; have h1 := h 1; have h2 := h 2; have h3 := h 3; have h4 := h 4; have h5 := h 5; have h6 := h 6; have h7 := h 7
  have e : (Str.ofString "").length = 0 := by rfl
  simp only [e, List.range, List.range.loop, List.map_cons, List.map_nil, List.sum_cons, List.sum_nil]
  omega
theorem spelt_mod (p w : Int) (i : Nat) : spelt p w i = spelt p (w.fmod 3) i := by
  have e : ((i : Int) + w).fmod 3 = ((i : Int) + w.fmod 3).fmod 3 := by
    rw [Int.fmod_eq_emod_of_nonneg _ (by decide), Int.fmod_eq_emod_of_nonneg _ (by decide), Int.fmod_eq_emod_of_nonneg _ (by decide)]
    omega
  unfold spelt
  rw [e]
noncomputable def txt (p r : Int) : Str := Txt.join (Str.ofString "") ((List.range 8).map (spelt p r))
theorem txt_mod (p w : Int) : Txt.join (Str.ofString "") ((List.range 8).map (spelt p w)) = txt p (w.fmod 3) := by
  unfold txt
  rw [show spelt p w = spelt p (w.fmod 3) from funext (spelt_mod p w)]
noncomputable def posAt (r : Int) : Nat → Nat
  | 0 => 0
  | i + 1 => posAt r i + if ((i : Int) + r).fmod 3 = 0 then 2 else 3
noncomputable def lnAt (r : Int) : Nat → Int
  | 0 => 1
  | i + 1 => lnAt r i + if ((i : Int) + r).fmod 3 = 2 then 1 else 0
noncomputable def txtOk (p r : Int) : Bool :=
  ((List.range 8).all fun i => @decide (Spelt (txt p r) (posAt r i) (lnAt r i) (letter (p + i)) (posAt r (i + 1)) (lnAt r (i + 1))) (by unfold Spelt; infer_instance)) &&
  @decide (Spelt (txt p r) (posAt r 8) (lnAt r 8) (Str.ofString "") (posAt r 8) (lnAt r 8)) (by unfold Spelt; infer_instance) &&
  decide ((txt p r).length < 100) && decide ((1 : Int) + ((Builtin.Str.occurrences (txt p r) (Str.ofString "\n") 0 (txt p r).length ((txt p r).length + 1)).length : Int) = lnAt r 8)
theorem txtOk_all : ((List.range 16).all fun p => (List.range 3).all fun r => txtOk (p : Int) (r : Int)) = true := by decide +kernel
theorem txt_ok {p r : Int} (p0 : 0 ≤ p) (p1 : p < 16) (r0 : 0 ≤ r) (r1 : r < 3) : txtOk p r = true := by
  have h := List.all_eq_true.mp txtOk_all p.toNat (List.mem_range.mpr (by omega))
  have h := List.all_eq_true.mp h r.toNat (List.mem_range.mpr (by omega))
  rwa [Int.toNat_of_nonneg p0, Int.toNat_of_nonneg r0] at h
theorem txt_facts {p r : Int} (p0 : 0 ≤ p) (p1 : p < 16) (r0 : 0 ≤ r) (r1 : r < 3) :
    (∀ i : Nat, i < 8 → Spelt (txt p r) (posAt r i) (lnAt r i) (letter (p + i)) (posAt r (i + 1)) (lnAt r (i + 1))) ∧ Spelt (txt p r) (posAt r 8) (lnAt r 8) (Str.ofString "") (posAt r 8) (lnAt r 8) ∧
    (txt p r).length < 100 ∧ (1 : Int) + ((Builtin.Str.occurrences (txt p r) (Str.ofString "\n") 0 (txt p r).length ((txt p r).length + 1)).length : Int) = lnAt r 8 := by
  have h := txt_ok p0 p1 r0 r1
  simp only [txtOk, Bool.and_eq_true, decide_eq_true_eq, List.all_eq_true] at h
  exact ⟨fun i hi => h.1.1.1 i (List.mem_range.mpr hi), h.1.1.2, h.1.2, h.2⟩
end Mine
end

section
open PySem PySem.W PySem.Spec PySem.Calls PyProof.Rows
namespace Mine
/-- a comprehension by a state that its turns change -/
theorem comp_st {prog : Program} {w : World} {A : Around} {h₀ : Heap} {L : Addr} {m : Str → Option Value} {env : Env} {elt : Expr} {x : Str} {scope : Scope} {cl : List (Str × Addr)} {s : Shared} {S : List (Addr × Obj) → Prop} {P : Nat → Value → Prop} {Fin : List Value → List (Addr × Obj) → Prop}
    {σ : Type} {n : Nat} (nw : σ → List (Addr × Obj)) (R : Nat → σ → List Value → Prop) (c₀ : σ) (h0 : R 0 c₀ [])
    (turn : ∀ i c ys v (I : Nat) oI (C : Nat) oC (D : Nat) m₂ h tk (E' : Value → Shared → Prop), i < n → R i c ys → P i v → LCg.NsObj oC m₂ → m₂ x = some v → Fr h₀ L h m → News h₀ L h ((I, oI) :: (C, oC) :: (D, LCg.lst ys) :: nw c) → LCg.Off3 I C D (nw c) → ((@Ne Nat I C) ∧ (@Ne Nat I D) ∧ (@Ne Nat C D)) →
      wpAny (model prog w) A (eval elt (compEnvC scope cl C env)) (LCg.CompEnd h₀ L m { s with heap := h, toks := tk } I oI C oC D (LCg.lst ys) S (fun y news' => ∃ c', news' = nw c' ∧ R (i + 1) c' (ys ++ [y]))) E' { s with heap := h, toks := tk })
    (fin : ∀ c ys, R n c ys → Fin ys (nw c)) : LCg.CompRest prog w A h₀ L m env elt x scope cl s S P Fin n 0 [] (nw c₀) := by
  have key : ∀ (j i : Nat) (c : σ) (ys : List Value), i + j = n → R i c ys → LCg.CompRest prog w A h₀ L m env elt x scope cl s S P Fin j i ys (nw c) := by
    intro j
    induction j with
    | zero => exact fun i c ys hi hR => LCg.CompRest.zero (fin c ys (by rw [← hi]; exact hR))
    | succ j ih =>
      intro i c ys hi hR
      refine LCg.CompRest.succ fun v I oI C oC D m₂ h tk E' hv hC hx F N off ne => ?_
      refine wpAny_mono (turn i c ys v I oI C oC D m₂ h tk E' (by omega) hR hv hC hx F N off ne) (fun y s₂ hq => ?_) fun _ _ e => e
      obtain ⟨h', tk', nw', e, F', N', off', hS, c', rfl, hR'⟩ := hq
      exact ⟨h', tk', nw c', e, F', N', off', hS, ih (i + 1) c' _ (by omega) hR'⟩
  exact key n 0 c₀ [] (by omega) h0
theorem comp_const {prog : Program} {w : World} {A : Around} {h₀ : Heap} {L : Addr} {m : Str → Option Value} {env : Env} {elt : Expr} {x : Str} {scope : Scope} {cl : List (Str × Addr)} {s : Shared} {S : List (Addr × Obj) → Prop} {P : Nat → Value → Prop} {Fin : List Value → List (Addr × Obj) → Prop}
    {n : Nat} {news : List (Addr × Obj)} (R : Nat → List Value → Prop) (h0 : R 0 [])
    (turn : ∀ i ys v (I : Nat) oI (C : Nat) oC (D : Nat) m₂ h tk (E' : Value → Shared → Prop), i < n → R i ys → P i v → LCg.NsObj oC m₂ → m₂ x = some v → Fr h₀ L h m → News h₀ L h ((I, oI) :: (C, oC) :: (D, LCg.lst ys) :: news) → LCg.Off3 I C D news → ((@Ne Nat I C) ∧ (@Ne Nat I D) ∧ (@Ne Nat C D)) →
      wpAny (model prog w) A (eval elt (compEnvC scope cl C env)) (LCg.CompEnd h₀ L m { s with heap := h, toks := tk } I oI C oC D (LCg.lst ys) S (fun y news' => news' = news ∧ R (i + 1) (ys ++ [y]))) E' { s with heap := h, toks := tk })
    (fin : ∀ ys, R n ys → Fin ys news) : LCg.CompRest prog w A h₀ L m env elt x scope cl s S P Fin n 0 [] news :=
  comp_st (fun _ : Unit => news) (fun i _ ys => R i ys) () h0 (fun i _ ys v I oI C oC D m₂ h tk E' hi hR hv hC hx F N off ne => wpAny_mono (turn i ys v I oI C oC D m₂ h tk E' hi hR hv hC hx F N off ne) (fun _ _ hq => by
    obtain ⟨h', tk', nw', e, F', N', off', hS, h1, h2⟩ := hq
    exact ⟨h', tk', nw', e, F', N', off', hS, (), h1, h2⟩) fun _ _ e => e) (fun _ ys hR => fin ys hR)
/-- the letter of the other size -/
noncomputable def other (c : Str) : Str := if c = Str.ofString "A" then Str.ofString "a" else Str.ofString "A"
theorem item_at_K {prog : Program} {w : World} {A : Around} {E : Value → Shared → Prop} {s : Shared} {h₀ : Heap} {L l : Addr} {news : List (Addr × Obj)} {vs : List Value} {n : Nat} {k : Int} {u : Tok} {v : Value} {value slice : PySem.Expr} {Q : Value → Shared → Prop}
    (N : News h₀ L s.heap news) (hm : (l, listOf vs.toArray n) ∈ news) (h0 : 0 ≤ k) (hk : k < 100) (hv : vs[k.toNat]? = some v) (h : Q v s)
    (hs : subscripted slice false (.ref l) (.int k u) = operate [.ref l, .int k u] (getItem (.ref l) (.int k u)) := by with_unfolding_all rfl) :
    wpAny (model prog w) A (subscriptTail value slice (.ref l) (.int k u)) Q E s := by
  have hl : s.heap.IsList l vs.toArray := ⟨_, (N _ hm).1, rfl, n, rfl⟩
  exact tail_any hl.typeIs slot_list_getitem.lookup (wpAny_getItem_list hl h0 (by omega) (by simpa using hv) h) hs
theorem strs_get {vs : List Value} {ss : List Str} (h : StrsAre vs ss) {i : Nat} {c : Str} (hc : ss[i]? = some c) : ∃ t, vs[i]? = some (.str c t) := by
  induction h generalizing i with
  | nil => simp at hc
  | cons x t _ ih =>
    cases i with
    | zero => exact ⟨t, by simpa using hc⟩
    | succ i => simpa using ih (by simpa using hc)
theorem ne_int_eq {prog : Program} {w : World} {A : Around} {E : Value → Shared → Prop} {s : Shared} {a b : Int} {t u : Tok} {Q : Value → Shared → Prop} (e : a = b) (h : Q (.bool false) s) : wpAny (model prog w) A (compareOp .NotEq (.int a t) (.int b u)) Q E s := by
  subst e
  exact PyProof.Rows.ne_int (by simpa using h)
theorem cons_sub {α : Type} {a : α} {l l' : List α} (h : ∀ p ∈ l, p ∈ l') : ∀ p ∈ a :: l, p ∈ a :: l' := fun p hp => (List.mem_cons.mp hp).elim (fun e => e ▸ List.mem_cons_self) fun hp => List.mem_cons_of_mem _ (h p hp)
theorem take_snoc {α : Type} {l : List α} {i : Nat} {a : α} (h : l[i]? = some a) : l.take (i + 1) = l.take i ++ [a] := by simp [List.take_add_one, h]

theorem strs_at {vs : List Value} {ss : List Str} (h : StrsAre vs ss) {i : Nat} {v : Value} (hv : vs[i]? = some v) : ∃ t, v = .str (ss.getD i default) t ∧ ss[i]? = some (ss.getD i default) := by
  induction h generalizing i with
  | nil => simp at hv
  | cons x t _ ih =>
    cases i with
    | zero => exact ⟨t, by simpa using hv.symm, by simp⟩
    | succ i => simpa using ih (by simpa using hv)
end Mine
end

section
open PySem PySem.W PySem.Spec PySem.Calls PyProof.Rows
namespace Mine
/-- a loop over a list of any values, by a state of the ledger -/
theorem any_loop {σ : Type} {prog : Program} {w : World} {A : Around} {E : Value → Shared → Prop} {s : Shared} {env : Env} {h₀ : Heap} {x : Str} {body : List Stmt} {Q : Flow → Shared → Prop} {l : Addr} {vs : List Value} {nn : Nat} {m₀ : Str → Option Value}
    (Led : σ → List (Addr × Obj)) (P : Nat → σ → Prop) (adr : List Addr) (c₀ : σ) (hh : A.handled = none) (hl : ∀ c, (l, listOf vs.toArray nn) ∈ Led c) (hadr : ∀ c, (Led c).map (·.1) = adr) (F : Fr h₀ env.locals s.heap m₀) (N : News h₀ env.locals s.heap (Led c₀)) (hp : P 0 c₀)
    (turn : ∀ i v c h tk own, vs[i]? = some v → OwnOff own adr → P i c → Fr h₀ env.locals h (fun y => if y = x then some v else m₀ y) → News h₀ env.locals h (Led c ++ own) →
      wpAny (model prog w) A (execs body env) (InvPostG h₀ env.locals (fun m' nx => ∃ c', nx = Led c' ∧ P (i + 1) c' ∧ ∀ z, z ≠ x → m' z = m₀ z) own { s with heap := h, toks := tk } Q) E { s with heap := h, toks := tk })
    (done : ∀ c (u : Str → Option Value) h tk, P vs.length c → Fr h₀ env.locals h (fun y => if y = x then u y else m₀ y) → News h₀ env.locals h (Led c) → Q .next { s with heap := h, toks := tk }) :
    wpAny (model prog w) A (pyIter (.ref l)) (fun it s₂ => LoopAtV prog w A h₀ env x body Q E it s₂) E s := by
  have off : ∀ {m₁ : Str → Option Value} (g : Str → Option Value), (∀ z, z ≠ x → m₁ z = m₀ z) → (fun y => if y = x then g y else m₁ y) = fun y => if y = x then g y else m₀ y := fun g hm => by
    funext y
    by_cases hy : y = x
    · rw [if_pos hy, if_pos hy]
    · rw [if_neg hy, if_neg hy, hm y hy]
  refine kdl_iter (fun i m nx => ∃ c, nx = Led c ∧ P i c ∧ ∀ z, z ≠ x → m z = m₀ z) hh (hl c₀) F N ⟨c₀, rfl, hp, fun _ _ => rfl⟩ ?_ ?_
  · rintro i v m₁ nx h tk own hv hoff _ ⟨c, rfl, hP, hm⟩ F₁ N₁
    rw [off (fun _ => some v) hm] at F₁
    rw [hadr] at hoff
    refine wpAny_mono (turn i v c h tk own hv hoff hP F₁ N₁) (fun f s₂ p => ?_) fun _ _ e => e
    have up : InvEndG h₀ env.locals (fun m' nx => ∃ c', nx = Led c' ∧ P (i + 1) c' ∧ ∀ z, z ≠ x → m' z = m₀ z) own { s with heap := h, toks := tk } s₂ →
        InvEndG h₀ env.locals (fun m' nx => (l, listOf vs.toArray nn) ∈ nx ∧ ∃ c', nx = Led c' ∧ P (i + 1) c' ∧ ∀ z, z ≠ x → m' z = m₀ z) own { s with heap := h, toks := tk } s₂ := by
      rintro ⟨h', tk', m', news', nx', e', F', N', hn', ho', ha, hS⟩
      refine ⟨h', tk', m', news', nx', e', F', N', hn', ho', ha, ?_, hS⟩
      obtain ⟨c', rfl, _⟩ := hS
      exact hl c'
    cases f with
    | ret v => exact p
    | brk => exact p
    | next => exact up p
    | cont => exact up p
  · rintro m₁ nx h tk ⟨c, rfl, hP, hm⟩ F₁ N₁
    have e : m₁ = fun y => if y = x then m₁ y else m₀ y := by
      funext y
      by_cases hy : y = x
      · rw [if_pos hy]
      · rw [if_neg hy, hm y hy]
    exact done c m₁ h tk hP (e ▸ F₁) N₁
/-- the end of such a turn -/
theorem any_end {σ : Type} {h₀ : Heap} {x : Str} {Led : σ → List (Addr × Obj)} {P : σ → Prop} {m₀ m' : Str → Option Value} {L : Addr} {own news' : List (Addr × Obj)} {adr : List Addr} {s₁ : Shared} {h' : Heap} {tk : Nat} (c : σ)
    (F : Fr h₀ L h' m') (N : News h₀ L h' news') (hn : ∀ p ∈ Led c, p ∈ news') (ho : ∀ p ∈ own, p ∈ news') (ha : OwnOff own adr) (hadr : (Led c).map (·.1) = adr) (hp : P c) (hm : ∀ z, z ≠ x → m' z = m₀ z) :
    InvEndG h₀ L (fun m' nx => ∃ c', nx = Led c' ∧ P c' ∧ ∀ z, z ≠ x → m' z = m₀ z) own s₁ { s₁ with heap := h', toks := tk } :=
  InvEndG.intro F N ⟨c, rfl, hp, hm⟩ (by rw [hadr]; exact ha) hn ho
end Mine
end

section
open PySem PySem.W PySem.Spec PySem.Calls PyProof.Rows
namespace Mine
theorem letter_next (q : Int) : letter (q + 8) = if letter q = Str.ofString "a" then Str.ofString "A" else Str.ofString "a" := by
  have ne : Str.ofString "A" ≠ Str.ofString "a" := by decide
  unfold letter
  by_cases h : (q + 4) % 16 < 8
  · have h' : ¬ (q + 8 + 4) % 16 < 8 := by omega
    rw [if_pos h, if_neg h', if_neg ne]
  · have h' : (q + 8 + 4) % 16 < 8 := by omega
    rw [if_neg h, if_pos h', if_pos rfl]
theorem other_letter (q : Int) : other (letter q) = letter (q + 8) := by
  have ne : Str.ofString "a" ≠ Str.ofString "A" := by decide
  unfold letter other
  by_cases h : (q + 4) % 16 < 8
  · have h' : ¬ (q + 8 + 4) % 16 < 8 := by omega
    rw [if_pos h, if_neg h', if_pos rfl]
  · have h' : (q + 8 + 4) % 16 < 8 := by omega
    rw [if_neg h, if_pos h', if_neg ne]
theorem other_map (a : Int) : ((rangeKs a 8).map letter).map other = (rangeKs (a + 8) 8).map letter := by
  rw [List.map_map]
  have e : rangeKs (a + 8) 8 = (rangeKs a 8).map (· + 8) := by
    simp only [rangeKs, List.map_map]
    apply List.map_congr_left
    intro i _
    show a + 8 + (i : Int) = a + (i : Int) + 8
    omega
  rw [e, List.map_map]
  apply List.map_congr_left
  intro m _
  exact other_letter m
/-- the wheel's word, its first letter apart -/
theorem wheel_head (a : Int) : (rangeKs a 8).map letter = letter a :: (rangeKs (a + 1) 7).map letter := by
  simp only [rangeKs, List.range, List.range.loop, List.map_cons, List.map_nil]
  simp [Int.add_assoc]
theorem wheel_tail (a : Int) : (rangeKs (a + 1) 7).map letter ++ [letter (a + 8)] = (rangeKs (a + 1) 8).map letter := by
  simp only [rangeKs, List.range, List.range.loop, List.map_cons, List.map_nil, List.cons_append, List.nil_append]
  simp [Int.add_assoc]
theorem letter_T {m : Int} (h : 0 ≤ m) : letter m = T [sign m.toNat] := by
  have e : ((m + 4) % 16 < 8) = ((m.toNat + 4) % 16 < 8) := by
    apply propext; omega
  unfold letter sign
  by_cases h' : (m.toNat + 4) % 16 < 8
  · rw [if_pos (by rw [e]; exact h'), if_pos h']; decide +kernel
  · rw [if_neg (by rw [e]; exact h'), if_neg h']; decide +kernel
theorem join_T : ∀ l : List Nat, Txt.join (Str.ofString "") (l.map fun c => T [c]) = T l := by
  intro l
  show Builtin.Str.glued _ _ = _
  rw [StrLaws.glued_eq_join]
  induction l with
  | nil => rfl
  | cons c r ih =>
    cases r with
    | nil => rfl
    | cons c' r =>
      show T [c] ++ Str.ofString "" ++ Str.join (Str.ofString "") ((c' :: r).map fun c => T [c]) = _
      rw [ih]
      apply Str.ext'
      simp [T, Str.cps_append]
      rfl
theorem wheel_word {a : Int} (h : 0 ≤ a) : Txt.join (Str.ofString "") ((rangeKs a 8).map letter) = T (word a.toNat) := by
  rw [← join_T]
  congr 1
  unfold word
  rw [List.map_map]
  simp only [rangeKs, List.map_map]
  apply List.map_congr_left
  intro i _
  show letter (a + (i : Int)) = T [sign (a.toNat + i)]
  rw [letter_T (by omega)]
  congr 3
  omega
theorem word_mod (p : Nat) : word p = word (p % 16) := by
  unfold word
  apply List.map_congr_left
  intro i _
  unfold sign
  have e : (p % 16 + i + 4) % 16 = (p + i + 4) % 16 := by omega
  rw [e]
theorem word_len (p : Nat) : (word p).length = 8 := by simp [word]
theorem word_mem (p : Nat) : ∀ x ∈ word p, x = 65 ∨ x = 97 := by
  intro x hx
  obtain ⟨i, _, rfl⟩ := List.mem_map.mp hx
  unfold sign
  split
  · exact .inl rfl
  · exact .inr rfl
theorem lev_away {p q : Nat} (hp : p < 16) (hq : q < 16) : levP (word q) (word p) (away p q) = (away p q : Int) := by
  have h := List.all_eq_true.mp levOk_all p (List.mem_range.mpr hp)
  have h := List.all_eq_true.mp h q (List.mem_range.mpr hq)
  exact beq_iff_eq.mp h
/-- the way round the wheel -/
noncomputable def way (t : Int) : Int := min (t.fmod 16) ((-t).fmod 16)
theorem way_if (t : Int) : (if (-t).fmod 16 < t.fmod 16 then (-t).fmod 16 else t.fmod 16) = way t := by
  unfold way
  split <;> omega
theorem way_bounds (t : Int) : 0 ≤ way t ∧ way t ≤ 8 := by
  unfold way
  rw [Int.fmod_eq_emod_of_nonneg _ (by decide), Int.fmod_eq_emod_of_nonneg _ (by decide)]
  omega
/-- the way, by the remainder -/
theorem way_nat {t : Int} {r : Nat} (h : t % 16 = (r : Int)) : way t = min (r : Int) (((16 - r) % 16 : Nat) : Int) := by
  unfold way
  rw [Int.fmod_eq_emod_of_nonneg _ (by decide), Int.fmod_eq_emod_of_nonneg _ (by decide), h, show (-t) % 16 = (((16 - r) % 16 : Nat) : Int) by omega]
theorem away_one : ∀ a : Fin 16, ∀ r : Fin 16, min ((r.1 : Nat) : Int) (((16 - r.1) % 16 : Nat) : Int) = (away a.1 ((a.1 + r.1) % 16) : Int) := by decide +kernel
theorem away_two : ∀ a : Fin 16, ∀ r : Fin 16, 8 - min ((r.1 : Nat) : Int) (((16 - r.1) % 16 : Nat) : Int) = (away ((a.1 + r.1) % 16) ((a.1 + 8) % 16) : Int) := by decide +kernel
theorem place_nat {p t : Int} {a r : Nat} (h : t % 16 = (r : Int)) (ha : p = (a : Int)) (t0 : 0 ≤ t) : (p + t).toNat % 16 = (a + r) % 16 := by omega
theorem rem_nat (t : Int) : ∃ r : Fin 16, t % 16 = ((r.1 : Nat) : Int) := ⟨⟨(t % 16).toNat, by omega⟩, by show t % 16 = (((t % 16).toNat : Nat) : Int); omega⟩
theorem lev_one {p t : Int} (p0 : 0 ≤ p) (p1 : p < 16) (t0 : 0 ≤ t) : levP (word (p + t).toNat) (word p.toNat) (way t) = way t := by
  obtain ⟨r, hr⟩ := rem_nat t
  obtain ⟨a, rfl⟩ := Int.eq_ofNat_of_zero_le p0
  have ha : a < 16 := by omega
  rw [word_mod ((a : Int) + t).toNat, place_nat hr rfl t0, way_nat hr, away_one ⟨a, ha⟩ r]
  exact lev_away ha (Nat.mod_lt _ (by decide))
theorem lev_two {p t : Int} (p0 : 0 ≤ p) (p1 : p < 16) (t0 : 0 ≤ t) : levP (word (p + 8).toNat) (word (p + t).toNat) (8 - way t) = 8 - way t := by
  obtain ⟨r, hr⟩ := rem_nat t
  obtain ⟨a, rfl⟩ := Int.eq_ofNat_of_zero_le p0
  have ha : a < 16 := by omega
  rw [word_mod ((a : Int) + 8).toNat, word_mod ((a : Int) + t).toNat, place_nat hr rfl t0, show ((a : Int) + 8).toNat % 16 = (a + 8) % 16 by omega, way_nat hr, away_two ⟨a, ha⟩ r]
  exact lev_away (Nat.mod_lt _ (by decide)) (Nat.mod_lt _ (by decide))
theorem turns_each (l : List Int) : ∀ n ∈ [5] ++ l.map (fun x => x.fmod 32), 0 ≤ n ∧ n < 32 := by
  intro n hn
  rcases List.mem_append.mp hn with h | h
  · rw [List.mem_singleton.mp h]; decide
  · obtain ⟨x, _, rfl⟩ := List.mem_map.mp h
    exact ⟨fmod_lo x (by decide), fmod_hi x (by decide)⟩
theorem sum_take_le : ∀ {l : List Int}, (∀ n ∈ l, 0 ≤ n ∧ n ≤ 31) → ∀ i, 0 ≤ (l.take i).sum ∧ (l.take i).sum ≤ 31 * (l.length : Int)
  | [], _, i => by simp
  | n :: r, h, 0 => by simp; omega
  | n :: r, h, i + 1 => by
    have h1 := h n (.head _)
    have h2 := sum_take_le (fun m hm => h m (.tail _ hm)) i
    simp only [List.take_succ_cons, List.sum_cons, List.length_cons]
    omega
theorem turns_sum {l : List Int} (hl : l.length ≤ 3) (i : Nat) : 0 ≤ ((([5] ++ l.map (fun x => x.fmod 32)) : List Int).take i).sum ∧ ((([5] ++ l.map (fun x => x.fmod 32)) : List Int).take i).sum ≤ 98 := by
  cases i with
  | zero => simp
  | succ i =>
    have h := sum_take_le (l := l.map (fun x => x.fmod 32)) (fun n hn => by
      obtain ⟨x, _, rfl⟩ := List.mem_map.mp hn
      have a := fmod_lo x (n := 32) (by decide)
      have b := fmod_hi x (n := 32) (by decide)
      omega) i
    rw [List.length_map] at h
    simp only [List.cons_append, List.nil_append, List.take_succ_cons, List.sum_cons]
    omega
theorem wheel_sum (a : Int) : ((((rangeKs a 8).map letter).map (·.length)).sum + ((rangeKs a 8).map letter).length * (Str.ofString "").length) ≤ 16777216 := by
  have h : ∀ m : Int, (letter m).length = 1 := fun m => by unfold letter; split <;> rfl
  have e : (Str.ofString "").length = 0 := by rfl
  simp [rangeKs, List.range, List.range.loop, h, e]
end Mine
end

section
open PySem PySem.W PySem.Spec PySem.Calls PyProof.Rows
namespace Mine
local macro_rules | `(tactic| k_all) => `(tactic| first | (with_reducible assumption) | exact List.forall_mem_nil _ | (refine' List.forall_mem_cons.mpr ⟨?a, ?b⟩; (case a => k_ne); (case b => k_all)) | assumption | fail "k_all")
local macro_rules | `(tactic| walk_at "exec Assign cons ListComp") => `(tactic| (k_here; k_dflt (refine LCg.Assign_ListComp_U (F₀ := by k_asm) (by rfl) (by with_unfolding_all rfl) (by with_unfolding_all rfl) (by decide) (by rfl) (by decide) (by rfl) (by rfl) (by rfl) ?_)))
local macro_rules | `(tactic| walk_at "eval ListComp") => `(tactic| (k_here; k_dflt (refine LCg.ListComp_U (F₀ := by k_asm) (by with_unfolding_all rfl) (by decide) (by rfl) (by decide) (by rfl) ?_)))
local macro_rules | `(tactic| walk_at "eval Name") => `(tactic| (k_here; (with_reducible show wpAny _ _ (eval (Expr.Name _ _) (envOfC _ _ _ _ _)) _ _ _); k_dflt (first
  | refine nameX_C (by k_asm) (by rfl) (by k_mem) (by k_asm) ?_ (by rfl) (by rfl)
  | refine nameX_L (by k_asm) (by rfl) ?_ (by rfl) (by rfl)
  | refine nameX_K (by k_asm) (by k_asm) (by k_asm) (by k_is) ?_ (by rfl) (by rfl)
  | refine nameX_B (by k_asm) (by k_asm) (by k_asm) (by k_is) (by boot_fast) (by decide) ?_ (by rfl) (by rfl)
  | fail "name")))
/-- the ledger at a sign of the file -/
noncomputable abbrev LexLed (x d D f la fr l : Nat) (q1 q2 q3 q4 : Int) (t1 t3 t4 t5 t6 : Tok) (oD fo ofr : Obj) (fx rest : List (Addr × Obj)) (r : Int) (c : Nat × Tok × Tok) : List (Addr × Obj) :=
  (l, listOf #[] 0) :: LX x d D f la fr l q1 q2 q3 q4 t1 t3 t4 t5 t6 0 oD fo ofr fx (lnAt r c.1) c.2.1 (posAt r c.1) c.2.2 rest
structure WS where
  t : Int
  tt : Tok
  items : List Value
  n : Nat
theorem law_holds : PySem.Challenge.rw_pe0151_01.Holds := by
  refine Mine.hd ?_
  k_go0
  all_goals try k_fold
  (repeat ((fail_if_success (focus (with_reducible show wpAny _ _ (PySem.call (Value.ref _) _) _ _ _))); (first | (k_unfold; (try dsimp only)) | (k_end; wrow_close) | walk1 | (dsimp only; walk1) | (leave1; walk_say "STEP leave1"; try dsimp only) | fail "no step")))
  rename IntsAre _ _ => hI
  rename List Int => ws
  rename World => w
  rename_i sa xs zra hL1 ra1 wl1 r01 hr1 hc63 hc2 hD1 hz1 tkz oc3 oc2 oc1 d3 d2 d1 XC XK TK BK l086 hz2 tkz2 tz1 hz3 oz1 dz1 hz4 hz5 hz6 FK NK
  have p0 := fmod_lo (List.sum ws) (n := 16) (by decide)
  have p1 := fmod_hi (List.sum ws) (n := 16) (by decide)
  have s0 := fmod_lo ((List.sum ws).fdiv 16) (n := 8) (by decide)
  have s1 := fmod_hi ((List.sum ws).fdiv 16) (n := 8) (by decide)
  have v0 := fmod_lo ((List.sum ws).fdiv 128) (n := 8) (by decide)
  have v1 := fmod_hi ((List.sum ws).fdiv 128) (n := 8) (by decide)
  refine fold_q ?_
  intro qu1a hqu1a
  refine (letters_ct (by omega) (by omega) (by omega) (by omega) (by omega) (by omega)).use (by k_asm) (by k_asm) (by k_asm) (by k_asm) (by k_asm) rfl (by ktr_room) (by ktr_units) ?_
  rintro r news' h1 tk1 ⟨l1, fs, n1, rfl, hlt, hS, rfl⟩ F1 N1
  refine hqu1a _ _ ?_
  k_lt hlt
  dsimp only
  iterate 2 (first | (k_unfold; (try dsimp only)) | (k_end; wrow_close) | walk1 | (dsimp only; walk1) | (leave1; walk_say "STEP leave1"; try dsimp only) | fail "no step")
  rename Obj => of1
  rename Shared => sh
  rename Fr _ _ _ _ => F2
  rename World => w
  obtain ⟨t1, t2, t3, m2, F3⟩ : ∃ t1 t2 t3 m2, Fr _ _ _ (kstB m2 [(Str.ofString "script", .ref sa), (Str.ofString "place", .int ((List.sum ws).fmod 16) t1), (Str.ofString "share", .int (1 + ((List.sum ws).fdiv 16).fmod 8) t2), (Str.ofString "value", .int (1 + ((List.sum ws).fdiv 128).fmod 8) t3)]) := by
    refine ⟨?ta_1, ?tb_1, ?tc_1, fr_named F2 _ ?td_1⟩
    case td_1 =>
      refine List.forall_mem_cons.mpr ⟨by with_unfolding_all rfl, ?_⟩
      refine List.forall_mem_cons.mpr ⟨by with_unfolding_all rfl, ?_⟩
      refine List.forall_mem_cons.mpr ⟨by with_unfolding_all rfl, ?_⟩
      exact List.forall_mem_cons.mpr ⟨by with_unfolding_all rfl, List.forall_mem_nil _⟩
  clear F2
  dsimp only [kstB] at F3
  (repeat ((fail_if_success (focus (with_reducible show PyProof.Rows.LCg.CompSrc _ _ _ _ _ _ _ _ _ _ _ _ _ _))); (first | (k_unfold; (try dsimp only)) | (k_end; wrow_close) | walk1 | (dsimp only; walk1) | (leave1; walk_say "STEP leave1"; try dsimp only) | fail "no step")))
  as_aux_lemma =>
    exact by
      rename StrsAre _ _ => hS
      rename List Int => ws
      rename World => w
      rename List Value => fs
      have hfl : fs.length = 8 := by have e := StrsAre.length hS; simpa [rangeKs] using e
      refine LCg.CompSrc.ledger (by rfl) (by k_asm) (by k_asm) (by k_mem) (by rw [List.size_toArray, hfl, sizeLine_eq]; decide) ?_
      intro g
      refine comp_const (fun i ys => StrsAre ys ((((rangeKs ((List.sum ws).fmod 16) 8).map letter).take i).map other)) .nil ?turn_2 ?fin_2
      case turn_2 =>
        intro i ys v I oI C oC D m₂ h tk E' hi hR hv hC hx F N off ne
        dsimp only at F N ⊢
        obtain ⟨t, rfl, hss⟩ := strs_at hS (v := v) (by simpa using hv)
        (repeat ((fail_if_success (focus (with_reducible show PyProof.Rows.LCg.CompEnd _ _ _ _ _ _ _ _ _ _ _ _ _ _))); (first | (k_unfold; (try dsimp only)) | (k_end; wrow_close) | walk1 | (dsimp only; walk1) | (leave1; walk_say "STEP leave1"; try dsimp only) | fail "no step")))
        rotate_left
        (repeat ((fail_if_success (focus (with_reducible show PyProof.Rows.LCg.CompEnd _ _ _ _ _ _ _ _ _ _ _ _ _ _))); (first | (k_unfold; (try dsimp only)) | (k_end; wrow_close) | walk1 | (dsimp only; walk1) | (leave1; walk_say "STEP leave1"; try dsimp only) | fail "no step")))
        all_goals
          dsimp only
          refine LCg.CompEnd.intro (by assumption) (by assumption) _ (fun p hp => hp) (by assumption) (.inr ⟨_, .head _, rfl, _, rfl⟩) ⟨rfl, ?_⟩
          rw [take_snoc hss, List.map_append]
          refine StrsAre.append' hR ?_
          rename (_ == _) = _ => hb
          simp only [beq_iff_eq, beq_eq_false_iff_ne] at hb
          first
          | (rw [List.map_singleton, other, if_pos hb]; exact .cons _ _ .nil)
          | (rw [List.map_singleton, other, if_neg hb]; exact .cons _ _ .nil)
      case fin_2 =>
        intro os hRo
        have hRo : StrsAre os (((rangeKs ((List.sum ws).fmod 16) 8).map letter).map other) := by
          rw [List.size_toArray, hfl, List.take_of_length_le (by simp [rangeKs])] at hRo
          exact hRo
        rename Fr _ _ _ _ => Fz
        rename News _ _ _ _ => Nz
        clear Fz Nz
        intro Dop hop tkop Fop Nop oop
        simp only [LCg.Off1] at oop
        dsimp only at Nop ⊢
        (repeat ((fail_if_success (focus (with_reducible show PyProof.Rows.LCg.CompSrc _ _ _ _ _ _ _ _ _ _ _ _ _ _))); (first | (k_unfold; (try dsimp only)) | (k_end; wrow_close) | walk1 | (dsimp only; walk1) | (leave1; walk_say "STEP leave1"; try dsimp only) | fail "no step")))
        as_aux_lemma =>
          exact by
            rename StrsAre _ (List.map other _) => hRo
            rename StrsAre _ (List.map letter _) => hS
            rename List Int => ws
            rename World => w
            refine LCg.CompSrc.range (n := 8) (by rfl) (by k_asm) (by k_asm) (by assumption) (by decide) (by rfl) (by rw [sizeLine_eq]; decide) ?_
            intro g
            refine comp_const (fun i ys => StrsAre ys ((List.range i).map (spelt ((List.sum ws).fmod 16) (List.sum ws)))) .nil ?turn_3 ?fin_3
            case turn_3 =>
              intro i ys v I oI C oC D m₂ h tk E' hi hR' hv hC hx F N off ne
              dsimp only at F N ⊢
              obtain ⟨t, rfl⟩ := hv
              obtain ⟨tc, htc⟩ := strs_get hS (i := i) (c := letter ((List.sum ws).fmod 16 + (i : Int))) (by simp [rangeKs, hi])
              iterate 8 (first | (k_unfold; (try dsimp only)) | (k_end; wrow_close) | walk1 | (dsimp only; walk1) | (leave1; walk_say "STEP leave1"; try dsimp only) | fail "no step")
              refine item_at_K (by assumption) (by k_mem) (by omega) (by omega) (by simpa using htc) ?_
              (repeat ((fail_if_success (focus (with_reducible show wpAny _ _ (PySem.call (Value.ref _) _) _ _ _))); (first | (k_unfold; (try dsimp only)) | (k_end; wrow_close) | walk1 | (dsimp only; walk1) | (leave1; walk_say "STEP leave1"; try dsimp only) | fail "no step")))
              have m0 := fmod_lo ((i : Int) + List.sum ws) (n := 3) (by decide)
              have m1 := fmod_hi ((i : Int) + List.sum ws) (n := 3) (by decide)
              refine fold_q ?_
              intro qu3a hqu3a
              refine (spell_ct (by rw [letter]; split <;> rfl) (by simpa using m0) (by simpa using m1)).use (by k_asm) (by k_asm) (by k_asm) (by k_asm) (by k_asm) rfl (by ktr_room) (by ktr_units) ?_
              rintro r news' h2 tk2 ⟨t2, rfl, rfl⟩ F2 N2
              refine hqu3a _ _ ?_
              dsimp only
              (repeat ((fail_if_success (focus (with_reducible show PyProof.Rows.LCg.CompEnd _ _ _ _ _ _ _ _ _ _ _ _ _ _))); (first | (k_unfold; (try dsimp only)) | (k_end; wrow_close) | walk1 | (dsimp only; walk1) | (leave1; walk_say "STEP leave1"; try dsimp only) | fail "no step")))
              refine LCg.CompEnd.intro (by assumption) (by assumption) _ (fun p hp => hp) (by assumption) trivial ⟨rfl, ?_⟩
              rw [List.range_succ, List.map_append, List.map_singleton]
              refine StrsAre.append' hR' ?_
              have e : spelt ((List.sum ws).fmod 16) (List.sum ws) i = spell (letter ((List.sum ws).fmod 16 + (i : Int))) ((0 + (i : Int) + List.sum ws).fmod 3) := by rw [spelt, Int.zero_add]
              rw [e]
              exact .cons _ _ .nil
            case fin_3 =>
              intro ys hR'
              rename Fr _ _ _ _ => Fz
              rename News _ _ _ _ => Nz
              clear Fz Nz
              intro Dt ht tkt Ft Nt ot
              simp only [LCg.Off1] at ot
              dsimp only at Nt ⊢
              have hlD : ht.IsList Dt ys.toArray := ⟨_, (Nt (Dt, LCg.lst ys) (.head _)).1, rfl, _, rfl⟩
              repeat ((fail_if_success (with_reducible show wpAny _ _ (call (Value.builtin "str.join") _) _ _ _)); (first | (k_unfold; (try dsimp only)) | (k_end; wrow_close) | walk1 | (dsimp only; walk1) | (leave1; walk_say "STEP leave1"; try dsimp only) | fail "no step"))
              refine join_list (items := ys.toArray) (ys := (List.range 8).map (spelt ((List.sum ws).fmod 16) (List.sum ws))) ?hl_3 ?hi_3 ?sum_3 ?_
              case hl_3 => exact hlD
              case hi_3 => simpa using hR'
              case sum_3 => exact spelt_sum _ _
              intro t9 k9
              have Nt := News.re Nt fun p hp => .tail _ hp
              dsimp only
              (repeat ((fail_if_success (focus (with_reducible show wpAny _ _ (PySem.call (Value.ref _) _) _ _ _))); (first | (k_unfold; (try dsimp only)) | (k_end; wrow_close) | walk1 | (dsimp only; walk1) | (leave1; walk_say "STEP leave1"; try dsimp only) | fail "no step")))
              rw [txt_mod]
              have r0 := fmod_lo (List.sum ws) (n := 3) (by decide)
              have r1 := fmod_hi (List.sum ws) (n := 3) (by decide)
              obtain ⟨TS, TE, TL, TN⟩ := txt_facts p0 p1 r0 r1
              generalize htx : txt ((List.sum ws).fmod 16) ((List.sum ws).fmod 3) = tx at *
              rename News _ _ _ _ => Nq
              have Nq := News.re (l' := (86, tabObj #[]) :: [(Dop, LCg.lst os), (l1, listOf fs.toArray n1), (sh.heap.objs.size + 1 + 1 + 1, oc3), (sh.heap.objs.size + 1 + 1, of1), (sh.heap.objs.size + 1, oz1)]) Nq (by (intro p hp; simp only [List.mem_cons, List.mem_append, List.cons_append] at hp ⊢; grind))
              as_aux_lemma =>
                exact by
                  refine fold_q ?_
                  intro qu4a hqu4a
                  refine (mac_ct TL ?h86_4).use (by k_asm) (by k_asm) (by k_asm) Nq (by k_asm) rfl (by ktr_room) (by ktr_units) ?_
                  case h86_4 =>
                    refine List.forall_mem_cons.mpr ⟨?_, ?_⟩
                    · exact Ne.symm oop.2.2.2.2.1
                    · refine List.forall_mem_cons.mpr ⟨?_, ?_⟩
                      · k_ne
                      refine List.forall_mem_cons.mpr ⟨?_, ?_⟩
                      · k_ne
                      refine List.forall_mem_cons.mpr ⟨?_, ?_⟩
                      · k_ne
                      refine List.forall_mem_cons.mpr ⟨?_, ?_⟩
                      · k_ne
                      exact List.forall_mem_nil _
                  rintro r news' hm tkm ⟨l, x, d, D, f, cf, fr, cr, la, cA, cX, q1, q2, q3, q4, u1, u2, u3, u4, u5, u6, u7, oD, fo, oc, ofr, ocr, oA, oX, oT, rfl, rfl, hone, hcls, hdict, hfd, hfr, ⟨psT, rfl⟩, g1, g2, g3, g4, g5, g6, g7, g8, g9, g10, g11, g12, hrd⟩ Fm Nm
                  refine hqu4a _ _ ?_
                  k_lt g12
                  have O : LexOk w tx x d D f fr la oD fo ofr [(cr, ocr), (cA, oA), (cX, oX)] :=
                    ⟨hone, hcls, hdict, hfd, hfr, hrd, by omega, by omega, by omega, by omega, by omega, by omega, by k_all, by k_all⟩
                  dsimp only
                  clear Nq
                  iterate 2 (first | (k_unfold; (try dsimp only)) | (k_end; wrow_close) | walk1 | (dsimp only; walk1) | (leave1; walk_say "STEP leave1"; try dsimp only) | fail "no step")
                  rename Obj => ol1
                  (repeat ((fail_if_success (focus (with_reducible show PyProof.Rows.LCg.CompSrc _ _ _ _ _ _ _ _ _ _ _ _ _ _))); (first | (k_unfold; (try dsimp only)) | (k_end; wrow_close) | walk1 | (dsimp only; walk1) | (leave1; walk_say "STEP leave1"; try dsimp only) | fail "no step")))
                  as_aux_lemma =>
                    exact by
                      rename News _ _ _ _ => Na
                      have Nb : News _ _ _ (LexLed x d D f la fr l q1 q2 q3 q4 u1 u3 u4 u5 u6 oD fo ofr [(cr, ocr), (cA, oA), (cX, oX)] [(cf, oc), (86, tabObj psT), (Dop, LCg.lst os), (l1, listOf fs.toArray n1), (sh.heap.objs.size + 1 + 1 + 1, ol1), (sh.heap.objs.size + 1 + 1, of1), (sh.heap.objs.size + 1, oz1)] ((List.sum ws).fmod 3) (0, u2, u7)) :=
                        News.re (l' := (l, listOf #[] 0) :: (x, instObj 66 d) :: (d, dictOf (lexDict q1 q2 q3 q4 u1 u2 u3 u4 u5 u6 1 f l) 4) :: (D, oD) :: (f, fo) :: (la, listOf #[.int 0 u7] 0) :: (fr, ofr) :: ([(cr, ocr), (cA, oA), (cX, oX)] ++ [(cf, oc), (86, tabObj psT), (Dop, LCg.lst os), (l1, listOf fs.toArray n1), (sh.heap.objs.size + 1 + 1 + 1, ol1), (sh.heap.objs.size + 1 + 1, of1), (sh.heap.objs.size + 1, oz1)])) Na (by ((try dsimp only [Mine.LexLed, Mine.LX, List.cons_append, List.nil_append]); (repeat' (first | (with_reducible exact List.forall_mem_nil _) | (with_reducible refine List.forall_mem_cons.mpr ⟨?_, ?_⟩) | (with_reducible exact List.mem_cons_self) | (with_reducible refine List.mem_cons_of_mem _ ?_)))))
                      clear Na
                      have hlaR : ∀ p ∈ [(cf, oc), (86, tabObj psT), (Dop, LCg.lst os), (l1, listOf fs.toArray n1), (sh.heap.objs.size + 1 + 1 + 1, ol1), (sh.heap.objs.size + 1 + 1, of1), (sh.heap.objs.size + 1, oz1)], p.1 ≠ la := by k_all
                      have hdR : ∀ p ∈ [(cf, oc), (86, tabObj psT), (Dop, LCg.lst os), (l1, listOf fs.toArray n1), (sh.heap.objs.size + 1 + 1 + 1, ol1), (sh.heap.objs.size + 1 + 1, of1), (sh.heap.objs.size + 1, oz1)], p.1 ≠ d := by k_all
                      refine LCg.CompSrc.range (n := 8) (by rfl) (by k_asm) Nb (by assumption) (by decide) (by rfl) (by rw [sizeLine_eq]; decide) ?_
                      intro g
                      refine comp_st (LexLed x d D f la fr l q1 q2 q3 q4 u1 u3 u4 u5 u6 oD fo ofr [(cr, ocr), (cA, oA), (cX, oX)] [(cf, oc), (86, tabObj psT), (Dop, LCg.lst os), (l1, listOf fs.toArray n1), (sh.heap.objs.size + 1 + 1 + 1, ol1), (sh.heap.objs.size + 1 + 1, of1), (sh.heap.objs.size + 1, oz1)] ((List.sum ws).fmod 3))
                        (fun i c ys => c.1 = i ∧ StrsAre ys ((List.range i).map fun (j : Nat) => letter ((List.sum ws).fmod 16 + (j : Int)))) (0, u2, u7) ⟨rfl, .nil⟩ ?turn_5 ?fin_5
                      case turn_5 =>
                        intro i c ys v I oI C oC Dc m₂ hc tkc E' hi hR' hv hC hx Fc Nc offc nec
                        obtain ⟨i', t2, tp⟩ := c
                        obtain ⟨rfl, hys⟩ := hR'
                        dsimp only [List.cons_append, List.nil_append] at Fc Nc ⊢
                        simp only [LCg.Off3] at offc
                        clear Nb
                        (repeat ((fail_if_success (focus (with_reducible show wpAny _ _ (PySem.call (Value.ref _) _) _ _ _))); (first | (k_unfold; (try dsimp only)) | (k_end; wrow_close) | walk1 | (dsimp only; walk1) | (leave1; walk_say "STEP leave1"; try dsimp only) | fail "no step")))
                        dsimp only [List.append_nil]
                        have N2 := News.re (l' := (l, listOf #[] 0) :: LX x d D f la fr l q1 q2 q3 q4 u1 u3 u4 u5 u6 0 oD fo ofr [(cr, ocr), (cA, oA), (cX, oX)] (lnAt ((List.sum ws).fmod 3) i') t2 (posAt ((List.sum ws).fmod 3) i') tp ((I, oI) :: (C, oC) :: (Dc, LCg.lst ys) :: [(cf, oc), (86, tabObj psT), (Dop, LCg.lst os), (l1, listOf fs.toArray n1), (sh.heap.objs.size + 1 + 1 + 1, ol1), (sh.heap.objs.size + 1 + 1, of1), (sh.heap.objs.size + 1, oz1)])) Nc (by ((try dsimp only [Mine.LexLed, Mine.LX, List.cons_append, List.nil_append]); (repeat' (first | (with_reducible exact List.forall_mem_nil _) | (with_reducible refine List.forall_mem_cons.mpr ⟨?_, ?_⟩) | (with_reducible exact List.mem_cons_self) | (with_reducible refine List.mem_cons_of_mem _ ?_)))))
                        have hla : ∀ p ∈ (I, oI) :: (C, oC) :: (Dc, LCg.lst ys) :: [(cf, oc), (86, tabObj psT), (Dop, LCg.lst os), (l1, listOf fs.toArray n1), (sh.heap.objs.size + 1 + 1 + 1, ol1), (sh.heap.objs.size + 1 + 1, of1), (sh.heap.objs.size + 1, oz1)], p.1 ≠ la :=
                          List.forall_mem_cons.mpr ⟨Ne.symm offc.2.2.2.2.2.1.1, List.forall_mem_cons.mpr ⟨Ne.symm offc.2.2.2.2.2.1.2.1, List.forall_mem_cons.mpr ⟨Ne.symm offc.2.2.2.2.2.1.2.2, hlaR⟩⟩⟩
                        have hld : ∀ p ∈ (I, oI) :: (C, oC) :: (Dc, LCg.lst ys) :: [(cf, oc), (86, tabObj psT), (Dop, LCg.lst os), (l1, listOf fs.toArray n1), (sh.heap.objs.size + 1 + 1 + 1, ol1), (sh.heap.objs.size + 1 + 1, of1), (sh.heap.objs.size + 1, oz1)], p.1 ≠ d :=
                          List.forall_mem_cons.mpr ⟨Ne.symm offc.2.2.1.1, List.forall_mem_cons.mpr ⟨Ne.symm offc.2.2.1.2.1, List.forall_mem_cons.mpr ⟨Ne.symm offc.2.2.1.2.2, hdR⟩⟩⟩
                        refine fold_q ?_
                        intro qu5a hqu5a
                        refine (tok_ct O g11 hla hld (TS i' hi)).use (by k_asm) (by k_asm) (by k_asm) N2 (by k_asm) rfl (by ktr_room) (by ktr_units) ?_
                        rintro r news' h2 tk2 ⟨t', tp', t2', rfl, rfl⟩ F3 N3
                        refine hqu5a _ _ ?_
                        dsimp only
                        (repeat ((fail_if_success (focus (with_reducible show PyProof.Rows.LCg.CompEnd _ _ _ _ _ _ _ _ _ _ _ _ _ _))); (first | (k_unfold; (try dsimp only)) | (k_end; wrow_close) | walk1 | (dsimp only; walk1) | (leave1; walk_say "STEP leave1"; try dsimp only) | fail "no step")))
                        refine LCg.CompEnd.intro (by assumption) (by assumption) _ ?sub_5 ?off_5 trivial ⟨(i' + 1, t2', tp'), rfl, rfl, ?_⟩
                        case sub_5 => ((try dsimp only [Mine.LexLed, Mine.LX, List.cons_append, List.nil_append]); (repeat' (first | (with_reducible exact List.forall_mem_nil _) | (with_reducible refine List.forall_mem_cons.mpr ⟨?_, ?_⟩) | (with_reducible exact List.mem_cons_self) | (with_reducible refine List.mem_cons_of_mem _ ?_))))
                        case off_5 =>
                          simp only [LCg.Off3]
                          exact offc
                        rw [List.range_succ, List.map_append, List.map_singleton]
                        exact StrsAre.append' hys (.cons _ _ .nil)
                      case fin_5 =>
                        rintro ⟨i', t2, tp⟩ ys ⟨rfl, hys⟩
                        rename Fr _ _ _ _ => Fz
                        clear Fz Nb
                        intro Dc hc tkc Fc Nc offc
                        simp only [LCg.Off1] at offc
                        dsimp only [List.cons_append, List.nil_append] at Fc Nc ⊢
                        (first | (k_unfold; (try dsimp only)) | (k_end; wrow_close) | walk1 | (dsimp only; walk1) | (leave1; walk_say "STEP leave1"; try dsimp only) | fail "no step")
                        as_aux_lemma =>
                          exact by
                            rename StrsAre _ (List.map letter (rangeKs _ _)) => hS
                            have hys8 : StrsAre ys ((rangeKs ((List.sum ws).fmod 16) 8).map letter) := by
                              have e : ((List.range 8).map fun (j : Nat) => letter ((List.sum ws).fmod 16 + (j : Int))) = (rangeKs ((List.sum ws).fmod 16) 8).map letter := by simp [rangeKs]
                              rw [← e]; exact hys
                            refine ne_strs_same Nc (.head _) hys8 (a := Dc) (b := l1) (by k_mem) hS (by intro x hx; obtain ⟨m, _, rfl⟩ := List.mem_map.mp hx; exact ok_letter m) (by ktr_units) ?_
                            have Nd := News.re Nc fun p hp => .tail _ hp
                            clear Nc
                            (repeat ((fail_if_success (focus (with_reducible show wpAny _ _ (PySem.call (Value.ref _) _) _ _ _))); (first | (k_unfold; (try dsimp only)) | (k_end; wrow_close) | walk1 | (dsimp only; walk1) | (leave1; walk_say "STEP leave1"; try dsimp only) | fail "no step")))
                            as_aux_lemma =>
                              exact by
                                dsimp only [List.append_nil]
                                have Ne' : News _ _ _ ((l, listOf #[] 0) :: LX x d D f la fr l q1 q2 q3 q4 u1 u3 u4 u5 u6 0 oD fo ofr [(cr, ocr), (cA, oA), (cX, oX)] (lnAt ((List.sum ws).fmod 3) 8) t2 (posAt ((List.sum ws).fmod 3) 8) tp [(cf, oc), (86, tabObj psT), (Dop, LCg.lst os), (l1, listOf fs.toArray n1), (sh.heap.objs.size + 1 + 1 + 1, ol1), (sh.heap.objs.size + 1 + 1, of1), (sh.heap.objs.size + 1, oz1)]) := Nd
                                clear Nd
                                rw [txt_mod, htx] at Fc
                                refine fold_q ?_
                                intro qu7a hqu7a
                                refine (tok_ct O g11 hlaR hdR TE).use (by k_asm) (by k_asm) (by k_asm) Ne' (by k_asm) rfl (by ktr_room) (by ktr_units) ?_
                                clear Ne'
                                rintro r news' he tke ⟨te, tp', t2', rfl, rfl⟩ Fe Ne
                                refine hqu7a _ _ ?_
                                clear Fc
                                dsimp only [LX, List.cons_append, List.nil_append] at Ne ⊢
                                (repeat ((fail_if_success (focus (with_reducible show wpAny _ _ (PySem.compareOp _ (Value.int _ _) (Value.int _ _)) _ _ _))); (first | (k_unfold; (try dsimp only)) | (k_end; wrow_close) | walk1 | (dsimp only; walk1) | (leave1; walk_say "STEP leave1"; try dsimp only) | fail "no step")))
                                refine ne_int_eq TN.symm ?_
                                (repeat ((fail_if_success (focus (with_reducible show wpAny _ _ (pyIter _) _ _ _))); (first | (k_unfold; (try dsimp only)) | (k_end; wrow_close) | walk1 | (dsimp only; walk1) | (leave1; walk_say "STEP leave1"; try dsimp only) | fail "no step")))
                                as_aux_lemma =>
                                  exact by
                                    rename StrsAre fs _ => hS
                                    rename Fr _ _ _ _ => Fe
                                    have hfl : fs.length = 8 := by have e := StrsAre.length hS; simpa [rangeKs] using e
                                    have o4' : d < x := O.o4
                                    have hR63 : ∀ p ∈ [(D, oD), (f, fo), (la, listOf #[.int (posAt ((List.sum ws).fmod 3) 8 : Int) tp'] 0), (fr, ofr), (cr, ocr), (cA, oA), (cX, oX)] ++ [(cf, oc), (86, tabObj psT), (Dop, LCg.lst os), (l1, listOf fs.toArray n1), (sh.heap.objs.size + 1 + 1 + 1, ol1), (sh.heap.objs.size + 1 + 1, of1), (sh.heap.objs.size + 1, oz1)], p.1 ≠ l := by
                                      dsimp only [List.cons_append, List.nil_append]; k_all
                                    refine any_loop (l := l1) (vs := fs) (nn := n1) (fun c : Nat => (l, listOf (fs.take c).toArray c) :: LX x d D f la fr l q1 q2 q3 q4 u1 u3 u4 u5 u6 0 oD fo ofr [(cr, ocr), (cA, oA), (cX, oX)] (lnAt ((List.sum ws).fmod 3) 8) t2' (posAt ((List.sum ws).fmod 3) 8) tp' [(cf, oc), (86, tabObj psT), (Dop, LCg.lst os), (l1, listOf fs.toArray n1), (sh.heap.objs.size + 1 + 1 + 1, ol1), (sh.heap.objs.size + 1 + 1, of1), (sh.heap.objs.size + 1, oz1)]) (fun i c => c = i) (((l, listOf #[] 0) :: LX x d D f la fr l q1 q2 q3 q4 u1 u3 u4 u5 u6 0 oD fo ofr [(cr, ocr), (cA, oA), (cX, oX)] (lnAt ((List.sum ws).fmod 3) 8) t2' (posAt ((List.sum ws).fmod 3) 8) tp' [(cf, oc), (86, tabObj psT), (Dop, LCg.lst os), (l1, listOf fs.toArray n1), (sh.heap.objs.size + 1 + 1 + 1, ol1), (sh.heap.objs.size + 1 + 1, of1), (sh.heap.objs.size + 1, oz1)]).map (·.1)) 0 (by rfl) (fun c => by k_mem) (fun c => by rfl) (by assumption) Ne rfl ?turn_8 ?done_8
                                    case turn_8 =>
                                      rintro i v c hu tku own hv hoff rfl Fu Nu
                                      clear Fe Ne
                                      obtain ⟨tv, rfl, hss⟩ := strs_at hS hv
                                      have hi8 : c < 8 := by rw [← hfl]; exact (List.getElem?_eq_some_iff.mp hv).1
                                      dsimp only [LX, List.cons_append, List.nil_append] at Nu ⊢
                                      refine fold_q ?_
                                      intro qk2 hqk2
                                      (repeat ((fail_if_success (focus (with_reducible show wpAny _ _ (PySem.call (Value.ref _) _) _ _ _))); (first | (k_unfold; (try dsimp only)) | (k_end; wrow_close) | walk1 | (dsimp only; walk1) | (leave1; walk_say "STEP leave1"; try dsimp only) | fail "no step")))
                                      have hr : ∀ p ∈ [(D, oD), (f, fo), (la, listOf #[.int (posAt ((List.sum ws).fmod 3) 8 : Int) tp'] 0), (fr, ofr), (cr, ocr), (cA, oA), (cX, oX)] ++ [(cf, oc), (86, tabObj psT), (Dop, LCg.lst os), (l1, listOf fs.toArray n1), (sh.heap.objs.size + 1 + 1 + 1, ol1), (sh.heap.objs.size + 1 + 1, of1), (sh.heap.objs.size + 1, oz1)] ++ own, p.1 ≠ l := fun p hp => (List.mem_append.mp hp).elim (hR63 p) fun hp => hoff p hp l (.head _)
                                      dsimp only [List.cons_append, List.nil_append] at hr
                                      refine fold_q ?_
                                      intro qu8a hqu8a
                                      refine (push_ct o4' g11 (by rw [List.length_take]; omega) hr).use (by k_asm) (by k_asm) (by k_asm) Nu (by k_asm) rfl (by ktr_room) (by ktr_units) ?_
                                      rintro r news' hv2 tkv ⟨rfl, rfl⟩ Fv Nv
                                      refine hqu8a _ _ ?_
                                      clear Fu Nu
                                      dsimp only
                                      (first | (k_unfold; (try dsimp only)) | (k_end; wrow_close) | walk1 | (dsimp only; walk1) | (leave1; walk_say "STEP leave1"; try dsimp only) | fail "no step")
                                      refine hqk2 _ _ ?_
                                      rw [← take_snoc hv] at Nv
                                      refine any_end (c + 1) Fv Nv ?hn_8 ?ho_8 hoff (by rfl) rfl (fun z hz => if_neg hz)
                                      case hn_8 => ((try dsimp only [Mine.LexLed, Mine.LX, List.cons_append, List.nil_append]); (repeat' (first | (with_reducible exact List.forall_mem_nil _) | (with_reducible refine List.forall_mem_cons.mpr ⟨?_, ?_⟩) | (with_reducible exact List.mem_cons_self) | (with_reducible refine List.mem_cons_of_mem _ ?_))))
                                      case ho_8 =>
                                        intro p hp
                                        repeat (first | exact hp | refine List.mem_cons_of_mem _ ?_)
                                    case done_8 =>
                                      rintro c um hd1 tkd rfl Fd Nd
                                      clear Fe Ne
                                      rw [List.take_length, hfl] at Nd
                                      dsimp only [LX, List.cons_append, List.nil_append] at Nd ⊢
                                      iterate 3 (first | (k_unfold; (try dsimp only)) | (k_end; wrow_close) | walk1 | (dsimp only; walk1) | (leave1; walk_say "STEP leave1"; try dsimp only) | fail "no step")
                                      as_aux_lemma =>
                                        exact by
                                          (first | (k_unfold; (try dsimp only)) | (k_end; wrow_close) | walk1 | (dsimp only; walk1) | (leave1; walk_say "STEP leave1"; try dsimp only) | fail "no step")
                                          (first | (k_unfold; (try dsimp only)) | (k_end; wrow_close) | walk1 | (dsimp only; walk1) | (leave1; walk_say "STEP leave1"; try dsimp only) | fail "no step")
                                          rename Fr _ _ _ _ => F2
                                          obtain ⟨t1, t2q, t3, t4, m3, F3⟩ : ∃ t1 t2 t3 t4 m3, Fr _ _ _ (kstB m3 [(Str.ofString "script", .ref sa), (Str.ofString "place", .int ((List.sum ws).fmod 16) t1), (Str.ofString "share", .int (1 + ((List.sum ws).fdiv 16).fmod 8) t2), (Str.ofString "value", .int (1 + ((List.sum ws).fdiv 128).fmod 8) t3), (Str.ofString "opposite", .ref Dop), (Str.ofString "turned", .int 0 t4)]) := by
                                            refine ⟨?ta_9, ?tb_9, ?tc_9, ?td_9, fr_named F2 _ ?te_9⟩
                                            case te_9 =>
                                              refine List.forall_mem_cons.mpr ⟨by with_unfolding_all rfl, ?_⟩
                                              refine List.forall_mem_cons.mpr ⟨by with_unfolding_all rfl, ?_⟩
                                              refine List.forall_mem_cons.mpr ⟨by with_unfolding_all rfl, ?_⟩
                                              refine List.forall_mem_cons.mpr ⟨by with_unfolding_all rfl, ?_⟩
                                              refine List.forall_mem_cons.mpr ⟨by with_unfolding_all rfl, ?_⟩
                                              exact List.forall_mem_cons.mpr ⟨by with_unfolding_all rfl, List.forall_mem_nil _⟩
                                          clear F2
                                          dsimp only [kstB] at F3
                                          k_dflt (refine For_invV (ghostOf sh.heap [(90, 86)]) (by rfl) (by rfl) ?_)
                                          (repeat ((fail_if_success (focus (with_reducible show PyProof.Rows.LCg.CompSrc _ _ _ _ _ _ _ _ _ _ _ _ _ _))); (first | (k_unfold; (try dsimp only)) | (k_end; wrow_close) | walk1 | (dsimp only; walk1) | (leave1; walk_say "STEP leave1"; try dsimp only) | fail "no step")))
                                          as_aux_lemma =>
                                            exact by
                                              rename IntsAre _ (List.take 3 ws) => hIs
                                              have hlen3 : (List.take 3 ws).length ≤ 3 := by rw [List.length_take]; omega
                                              refine LCg.CompSrc.ledger (by rfl) (by k_asm) (by k_asm) (by k_mem) (by rw [List.size_toArray, hIs.length, sizeLine_eq]; omega) ?_
                                              intro g
                                              refine comp_const (fun i ys => IntsAre ys (((List.take 3 ws).take i).map fun x => x.fmod 32)) .nil ?turn_10 ?fin_10
                                              case turn_10 =>
                                                intro i ys v I oI C oC Dc m₂ hx1 tk E' hi hR hv hC hx F N off ne
                                                dsimp only at F N ⊢
                                                obtain ⟨kx, tx0, rfl, hkx⟩ := IntsAre.at hIs i v (by simpa using hv)
                                                (repeat ((fail_if_success (focus (with_reducible show PyProof.Rows.LCg.CompEnd _ _ _ _ _ _ _ _ _ _ _ _ _ _))); (first | (k_unfold; (try dsimp only)) | (k_end; wrow_close) | walk1 | (dsimp only; walk1) | (leave1; walk_say "STEP leave1"; try dsimp only) | fail "no step")))
                                                refine LCg.CompEnd.intro (by assumption) (by assumption) _ (fun p hp => hp) (by assumption) (.inr ⟨_, .head _, rfl, _, rfl⟩) ⟨rfl, ?_⟩
                                                rw [take_snoc hkx, List.map_append]
                                                exact IntsAre.append hR (.cons _ _ .nil)
                                              case fin_10 =>
                                                intro tsv hts
                                                have hts : IntsAre tsv ((List.take 3 ws).map fun x => x.fmod 32) := by
                                                  rw [List.size_toArray, hIs.length, List.take_length] at hts
                                                  exact hts
                                                rename Fr _ _ _ _ => Fz
                                                rename News _ _ _ _ => Nz
                                                clear Fz Nz
                                                intro Dts hts1 tkts Fts Nts ots
                                                simp only [LCg.Off1] at ots
                                                dsimp only at Nts ⊢
                                                (repeat ((fail_if_success (focus (with_reducible show wpAny _ _ (pyIter _) _ _ _))); (first | (k_unfold; (try dsimp only)) | (k_end; wrow_close) | walk1 | (dsimp only; walk1) | (leave1; walk_say "STEP leave1"; try dsimp only) | fail "no step")))
                                                as_aux_lemma =>
                                                  exact by
                                                    rename_i lt tv hltq Flt Nlt hIlt ltl
                                                    have Nl2 : News _ _ _ ((l, listOf fs.toArray 8) :: LX x d D f la fr l q1 q2 q3 q4 u1 u3 u4 u5 u6 0 oD fo ofr [(cr, ocr), (cA, oA), (cX, oX)] (lnAt ((List.sum ws).fmod 3) 8) t2' (posAt ((List.sum ws).fmod 3) 8) tp' [(cf, oc), (86, tabObj psT), (Dop, LCg.lst os), (l1, listOf fs.toArray n1), (sh.heap.objs.size + 1 + 1 + 1, ol1), (sh.heap.objs.size + 1 + 1, of1), (sh.heap.objs.size + 1, oz1), (lt, listOf tv.toArray 0)]) := News.re Nlt (by ((try dsimp only [Mine.LexLed, Mine.LX, List.cons_append, List.nil_append]); (repeat' (first | (with_reducible exact List.forall_mem_nil _) | (with_reducible refine List.forall_mem_cons.mpr ⟨?_, ?_⟩) | (with_reducible exact List.mem_cons_self) | (with_reducible refine List.mem_cons_of_mem _ ?_)))))
                                                    clear Nlt
                                                    have hRl : ∀ p ∈ [(D, oD), (f, fo), (la, listOf #[.int (posAt ((List.sum ws).fmod 3) 8 : Int) tp'] 0), (fr, ofr), (cr, ocr), (cA, oA), (cX, oX)] ++ [(cf, oc), (86, tabObj psT), (Dop, LCg.lst os), (l1, listOf fs.toArray n1), (sh.heap.objs.size + 1 + 1 + 1, ol1), (sh.heap.objs.size + 1 + 1, of1), (sh.heap.objs.size + 1, oz1), (lt, listOf tv.toArray 0)], p.1 ≠ l := by
                                                      dsimp only [List.cons_append, List.nil_append]; k_all
                                                    rename StrsAre fs _ => hS
                                                    obtain ⟨M0, ⟨ta, tb, tc, hMp, hMs, hMv, hMo, hMt⟩, Fl2⟩ : ∃ M0 : Str → Option Value, (∃ ta tb tc, M0 (Str.ofString "place") = some (.int ((List.sum ws).fmod 16) ta) ∧ M0 (Str.ofString "share") = some (.int (1 + ((List.sum ws).fdiv 16).fmod 8) tb) ∧ M0 (Str.ofString "value") = some (.int (1 + ((List.sum ws).fdiv 128).fmod 8) tc) ∧ M0 (Str.ofString "opposite") = some (.ref Dop) ∧ M0 (Str.ofString "turned") = some (.int 0 t4)) ∧ Fr (ghostOf sh.heap [(90, 86)]) sh.heap.objs.size _ M0 :=
                                                      ⟨_, ⟨_, _, _, by with_unfolding_all rfl, by with_unfolding_all rfl, by with_unfolding_all rfl, by with_unfolding_all rfl, by with_unfolding_all rfl⟩, Flt⟩
                                                    clear Flt
                                                    refine kst_listL (σ := WS) (l := lt) (vs := tv) (nn := 0) (fun c => (l, listOf c.items.toArray c.n) :: LX x d D f la fr l q1 q2 q3 q4 u1 u3 u4 u5 u6 0 oD fo ofr [(cr, ocr), (cA, oA), (cX, oX)] (lnAt ((List.sum ws).fmod 3) 8) t2' (posAt ((List.sum ws).fmod 3) 8) tp' [(cf, oc), (86, tabObj psT), (Dop, LCg.lst os), (l1, listOf fs.toArray n1), (sh.heap.objs.size + 1 + 1 + 1, ol1), (sh.heap.objs.size + 1 + 1, of1), (sh.heap.objs.size + 1, oz1), (lt, listOf tv.toArray 0)]) (fun c => [(Str.ofString "turned", .int c.t c.tt)]) (fun _ => True) [Str.ofString "step", Str.ofString "now", Str.ofString "way", Str.ofString "letter"]
                                                      (fun pre c => c.t = pre.sum ∧ StrsAre c.items ((rangeKs ((List.sum ws).fmod 16 + c.t) 8).map letter)) ⟨0, t4, fs, 8⟩ (by rfl) (fun c => by k_mem) hIlt Fl2 Nl2 trivial (List.forall_mem_cons.mpr ⟨hMt, List.forall_mem_nil _⟩) ⟨by rfl, by simpa using hS⟩ ?turn_11 ?done_11
                                                    case turn_11 =>
                                                      intro c pre post n tn u ht0 tk0 own hns hn hoff _ hP Ft0 Nt0
                                                      clear Fl2 Nl2
                                                      dsimp only [kstB] at Ft0
                                                      dsimp only [LX, List.cons_append, List.nil_append] at Nt0 ⊢
                                                      refine fold_q ?_
                                                      intro qk0 hqk0
                                                      as_aux_lemma =>
                                                        exact by
                                                          obtain ⟨hct, hci⟩ := hP
                                                          obtain ⟨hn0, hn1⟩ := turns_each _ n hn
                                                          obtain ⟨hs0, hs1⟩ := turns_sum hlen3 pre.length
                                                          rw [hns, List.take_left] at hs0 hs1
                                                          rw [← hct] at hs0 hs1
                                                          (first | (k_unfold; (try dsimp only)) | (k_end; wrow_close) | walk1 | (dsimp only; walk1) | (leave1; walk_say "STEP leave1"; try dsimp only) | fail "no step")
                                                          k_dflt (refine For_invV (ghostOf sh.heap [(90, 86)]) (by rfl) (by rfl) ?_)
                                                          (repeat ((fail_if_success (focus (with_reducible show wpAny _ _ (pyIter _) _ _ _))); (first | (k_unfold; (try dsimp only)) | (k_end; wrow_close) | walk1 | (dsimp only; walk1) | (leave1; walk_say "STEP leave1"; try dsimp only) | fail "no step")))
                                                          rename IsRange _ _ _ _ _ _ _ _ => rg
                                                          rename Fr _ _ _ _ => Fi0
                                                          rename News _ _ _ _ => Ni0
                                                          have Fi : Fr _ (sh.heap.objs.size) _ _ := Fi0
                                                          have Ni : News (ghostOf sh.heap [(90, 86)]) (sh.heap.objs.size) _ ((l, listOf c.items.toArray c.n) :: LX x d D f la fr l q1 q2 q3 q4 u1 u3 u4 u5 u6 0 oD fo ofr [(cr, ocr), (cA, oA), (cX, oX)] (lnAt ((List.sum ws).fmod 3) 8) t2' (posAt ((List.sum ws).fmod 3) 8) tp' ([(cf, oc), (86, tabObj psT), (Dop, LCg.lst os), (l1, listOf fs.toArray n1), (sh.heap.objs.size + 1 + 1 + 1, ol1), (sh.heap.objs.size + 1 + 1, of1), (sh.heap.objs.size + 1, oz1), (lt, listOf tv.toArray 0)] ++ own)) := Ni0
                                                          clear Fi0 Ni0
                                                          refine kst_range (n := n.toNat) (σ := List Value × Nat) (fun e => (l, listOf e.1.toArray e.2) :: LX x d D f la fr l q1 q2 q3 q4 u1 u3 u4 u5 u6 0 oD fo ofr [(cr, ocr), (cA, oA), (cX, oX)] (lnAt ((List.sum ws).fmod 3) 8) t2' (posAt ((List.sum ws).fmod 3) 8) tp' ([(cf, oc), (86, tabObj psT), (Dop, LCg.lst os), (l1, listOf fs.toArray n1), (sh.heap.objs.size + 1 + 1 + 1, ol1), (sh.heap.objs.size + 1 + 1, of1), (sh.heap.objs.size + 1, oz1), (lt, listOf tv.toArray 0)] ++ own)) (fun _ => []) (fun _ => True) [] (fun q e => StrsAre e.1 ((rangeKs ((List.sum ws).fmod 16 + c.t + (q.length : Int)) 8).map letter)) (c.items, c.n)
                                                            (by rfl) rg (small_one (by omega) (by omega) (by omega) (by omega)) (by rw [rangeSize_nat]; omega) Fi Ni trivial (fun _ hp => nomatch hp) (by simpa using hci) ?turn_12 ?done_12
                                                          case turn_12 =>
                                                            rintro e q k tk1 u1' hu1 tku1 own1 hk hkl hoff1 _ hP1 Fu1 Nu1
                                                            clear Fi Ni
                                                            obtain ⟨its, nn⟩ := e
                                                            dsimp only [kstB, LX, List.cons_append, List.nil_append, List.append_assoc] at hP1 Fu1 Nu1 ⊢
                                                            refine fold_q ?_
                                                            intro qk1 hqk1
                                                            rw [wheel_head] at hP1
                                                            cases hP1 with
                                                            | cons _ tc hPr =>
                                                              rename_i its
                                                              (repeat ((fail_if_success (focus (with_reducible show wpAny _ _ (PySem.call (Value.ref _) _) _ _ _))); (first | (k_unfold; (try dsimp only)) | (k_end; wrow_close) | walk1 | (dsimp only; walk1) | (leave1; walk_say "STEP leave1"; try dsimp only) | fail "no step")))
                                                              as_aux_lemma =>
                                                                exact by
                                                                  have hr : ∀ p ∈ [(D, oD), (f, fo), (la, listOf #[.int (posAt ((List.sum ws).fmod 3) 8 : Int) tp'] 0), (fr, ofr), (cr, ocr), (cA, oA), (cX, oX)] ++ ([(cf, oc), (86, tabObj psT), (Dop, LCg.lst os), (l1, listOf fs.toArray n1), (sh.heap.objs.size + 1 + 1 + 1, ol1), (sh.heap.objs.size + 1 + 1, of1), (sh.heap.objs.size + 1, oz1), (lt, listOf tv.toArray 0)] ++ (own ++ own1)), p.1 ≠ l := by
                                                                    intro p hp
                                                                    rcases List.mem_append.mp hp with hp | hp
                                                                    · exact hRl p (List.mem_append_left _ hp)
                                                                    rcases List.mem_append.mp hp with hp | hp
                                                                    · exact hRl p (List.mem_append_right _ hp)
                                                                    rcases List.mem_append.mp hp with hp | hp
                                                                    · exact hoff p hp l (.head _)
                                                                    · exact hoff1 p hp l (.head _)
                                                                  have hil : its.length = 7 := by have e := StrsAre.length hPr; simpa [rangeKs] using e
                                                                  dsimp only [List.append_nil, List.cons_append, List.nil_append] at hr ⊢
                                                                  refine fold_q ?_
                                                                  intro qu13a hqu13a
                                                                  refine (pop_ct o4' g11 (by omega) hr).use (by k_asm) (by k_asm) (by k_asm) Nu1 (by k_asm) rfl (by ktr_room) (by ktr_units) ?_
                                                                  rintro r news' hp1 tkp1 ⟨rfl, rfl⟩ Fp1 Np1
                                                                  refine hqu13a _ _ ?_
                                                                  clear Fu1 Nu1
                                                                  dsimp only
                                                                  (repeat ((fail_if_success (focus (with_reducible show wpAny _ _ (PySem.call (Value.ref _) _) _ _ _))); (first | (k_unfold; (try dsimp only)) | (k_end; wrow_close) | walk1 | (dsimp only; walk1) | (leave1; walk_say "STEP leave1"; try dsimp only) | fail "no step")))
                                                                  rotate_left
                                                                  (repeat ((fail_if_success (focus (with_reducible show wpAny _ _ (PySem.call (Value.ref _) _) _ _ _))); (first | (k_unfold; (try dsimp only)) | (k_end; wrow_close) | walk1 | (dsimp only; walk1) | (leave1; walk_say "STEP leave1"; try dsimp only) | fail "no step")))
                                                                  all_goals
                                                                    refine fold_q ?_
                                                                    intro qu13b hqu13b
                                                                    refine (push_ct o4' g11 (by omega) hr).use (by k_asm) (by k_asm) (by k_asm) Np1 (by k_asm) rfl (by ktr_room) (by ktr_units) ?_
                                                                    rintro r news' hv2 tkv ⟨rfl, rfl⟩ Fv Nv
                                                                    refine hqu13b _ _ ?_
                                                                    clear Fp1 Np1
                                                                    dsimp only
                                                                    (first | (k_unfold; (try dsimp only)) | (k_end; wrow_close) | walk1 | (dsimp only; walk1) | (leave1; walk_say "STEP leave1"; try dsimp only) | fail "no step")
                                                                    refine hqk1 _ _ ?_
                                                                    rename (_ == _) = _ => hb
                                                                    simp only [beq_iff_eq, beq_eq_false_iff_ne] at hb
                                                                    refine kst_end (?_, ?_) Fv Nv ?hn_13 ?ho_13 ?ha_13 trivial (List.forall_mem_nil _) ?hm_13 ?hp_13
                                                                    case hn_13 =>
                                                                      dsimp only [LX, List.cons_append, List.nil_append]
                                                                      repeat (with_reducible refine cons_sub ?_)
                                                                      exact fun p hp => List.mem_append_left _ hp
                                                                    case ha_13 => rfl
                                                                    case ho_13 =>
                                                                      intro p hp
                                                                      repeat (with_reducible refine List.mem_cons_of_mem _ ?_)
                                                                      exact List.mem_append_right _ hp
                                                                    case hm_13 =>
                                                                      intro z hz _ hs
                                                                      simp only [if_neg hz, hs, Bool.false_eq_true, if_false]
                                                                    case hp_13 =>
                                                                      have e : (List.sum ws).fmod 16 + c.t + ((q ++ [k]).length : Int) = (List.sum ws).fmod 16 + c.t + (q.length : Int) + 1 := by
                                                                        rw [List.length_append, List.length_singleton]; omega
                                                                      dsimp only
                                                                      rw [e, ← wheel_tail]
                                                                      refine StrsAre.append' hPr ?_
                                                                      rw [letter_next]
                                                                      first
                                                                      | (rw [if_pos hb]; exact .cons _ _ .nil)
                                                                      | (rw [if_neg hb]; exact .cons _ _ .nil)
                                                          case done_12 =>
                                                            rintro ⟨its, nn⟩ u1' hu1 tku1 _ hP1 Fu1 Nu1
                                                            clear Fi Ni
                                                            dsimp only [kstB, LX, List.cons_append, List.nil_append] at hP1 Fu1 Nu1 ⊢
                                                            as_aux_lemma =>
                                                              exact by
                                                                have hP1 : StrsAre its ((rangeKs ((List.sum ws).fmod 16 + (c.t + n)) 8).map letter) := by
                                                                  have e : (List.sum ws).fmod 16 + c.t + ((rangeKs 0 n.toNat).length : Int) = (List.sum ws).fmod 16 + (c.t + n) := by
                                                                    rw [rangeKs_length]; omega
                                                                  rwa [e] at hP1
                                                                iterate 8 (first | (k_unfold; (try dsimp only)) | (k_end; wrow_close) | walk1 | (dsimp only; walk1) | (leave1; walk_say "STEP leave1"; try dsimp only) | fail "no step")
                                                                generalize hT : c.t + n = T' at *
                                                                rename Fr _ _ _ _ => F2
                                                                rename News _ _ _ _ => N2
                                                                obtain ⟨td, te', m4, e4, F3⟩ : ∃ td te' m4, (∀ z, z ≠ Str.ofString "turn" → z ≠ Str.ofString "turned" → [Str.ofString "step", Str.ofString "now", Str.ofString "way", Str.ofString "letter"].contains z = false → kstB m4 [(Str.ofString "place", .int ((List.sum ws).fmod 16) ta), (Str.ofString "share", .int (1 + ((List.sum ws).fdiv 16).fmod 8) tb), (Str.ofString "value", .int (1 + ((List.sum ws).fdiv 128).fmod 8) tc), (Str.ofString "opposite", .ref Dop), (Str.ofString "turned", .int T' td), (Str.ofString "turn", .int n te')] z = M0 z) ∧ Fr (ghostOf sh.heap [(90, 86)]) sh.heap.objs.size _ (kstB m4 [(Str.ofString "place", .int ((List.sum ws).fmod 16) ta), (Str.ofString "share", .int (1 + ((List.sum ws).fdiv 16).fmod 8) tb), (Str.ofString "value", .int (1 + ((List.sum ws).fdiv 128).fmod 8) tc), (Str.ofString "opposite", .ref Dop), (Str.ofString "turned", .int T' td), (Str.ofString "turn", .int n te')]) := by
                                                                  obtain ⟨m4, e4, z4⟩ := fr_named' F2 [(Str.ofString "place", .int ((List.sum ws).fmod 16) ta), (Str.ofString "share", .int (1 + ((List.sum ws).fdiv 16).fmod 8) tb), (Str.ofString "value", .int (1 + ((List.sum ws).fdiv 128).fmod 8) tc), (Str.ofString "opposite", .ref Dop), (Str.ofString "turned", .int T' _), (Str.ofString "turn", .int n _)] (List.forall_mem_cons.mpr ⟨by with_unfolding_all exact hMp, List.forall_mem_cons.mpr ⟨by with_unfolding_all exact hMs, List.forall_mem_cons.mpr ⟨by with_unfolding_all exact hMv, List.forall_mem_cons.mpr ⟨by with_unfolding_all exact hMo, List.forall_mem_cons.mpr ⟨by with_unfolding_all rfl, List.forall_mem_cons.mpr ⟨by with_unfolding_all rfl, List.forall_mem_nil _⟩⟩⟩⟩⟩⟩)
                                                                  refine ⟨_, _, m4, fun z h1 h2 h3 => ?_, z4⟩
                                                                  have h4 : z ≠ Str.ofString "step" := by rintro rfl; exact absurd h3 (by decide)
                                                                  rw [e4 z]
                                                                  have h5 : [].contains z = false := rfl
                                                                  simp only [if_neg h1, if_neg h2, if_neg h4, h3, h5, Bool.false_eq_true, if_false]
                                                                clear F2
                                                                dsimp only [kstB] at F3
                                                                have N3 : News (ghostOf sh.heap [(90, 86)]) (sh.heap.objs.size) _ ((l, listOf its.toArray nn) :: LX x d D f la fr l q1 q2 q3 q4 u1 u3 u4 u5 u6 0 oD fo ofr [(cr, ocr), (cA, oA), (cX, oX)] (lnAt ((List.sum ws).fmod 3) 8) t2' (posAt ((List.sum ws).fmod 3) 8) tp' ([(cf, oc), (86, tabObj psT), (Dop, LCg.lst os), (l1, listOf fs.toArray n1), (sh.heap.objs.size + 1 + 1 + 1, ol1), (sh.heap.objs.size + 1 + 1, of1), (sh.heap.objs.size + 1, oz1), (lt, listOf tv.toArray 0)] ++ own)) := N2
                                                                clear N2
                                                                have hr : ∀ p ∈ [(D, oD), (f, fo), (la, listOf #[.int (posAt ((List.sum ws).fmod 3) 8 : Int) tp'] 0), (fr, ofr), (cr, ocr), (cA, oA), (cX, oX)] ++ ([(cf, oc), (86, tabObj psT), (Dop, LCg.lst os), (l1, listOf fs.toArray n1), (sh.heap.objs.size + 1 + 1 + 1, ol1), (sh.heap.objs.size + 1 + 1, of1), (sh.heap.objs.size + 1, oz1), (lt, listOf tv.toArray 0)] ++ own), p.1 ≠ l := by
                                                                  intro p hp
                                                                  rcases List.mem_append.mp hp with hp | hp
                                                                  · exact hRl p (List.mem_append_left _ hp)
                                                                  rcases List.mem_append.mp hp with hp | hp
                                                                  · exact hRl p (List.mem_append_right _ hp)
                                                                  · exact hoff p hp l (.head _)
                                                                (repeat ((fail_if_success (focus (with_reducible show PyProof.Rows.LCg.CompSrc _ _ _ _ _ _ _ _ _ _ _ _ _ _))); (first | (k_unfold; (try dsimp only)) | (k_end; wrow_close) | walk1 | (dsimp only; walk1) | (leave1; walk_say "STEP leave1"; try dsimp only) | fail "no step")))
                                                                as_aux_lemma =>
                                                                  exact by
                                                                    rename News _ _ _ _ => Nn
                                                                    have hWl : ((rangeKs ((List.sum ws).fmod 16 + T') 8).map letter).length = 8 := by simp [rangeKs]
                                                                    refine LCg.CompSrc.range (n := 8) (by rfl) (by k_asm) Nn (by assumption) (by decide) (by rfl) (by rw [sizeLine_eq]; decide) ?_
                                                                    intro g
                                                                    refine comp_st (σ := List Value × Nat) (fun e => (l, listOf e.1.toArray e.2) :: LX x d D f la fr l q1 q2 q3 q4 u1 u3 u4 u5 u6 0 oD fo ofr [(cr, ocr), (cA, oA), (cX, oX)] (lnAt ((List.sum ws).fmod 3) 8) t2' (posAt ((List.sum ws).fmod 3) 8) tp' ([(cf, oc), (86, tabObj psT), (Dop, LCg.lst os), (l1, listOf fs.toArray n1), (sh.heap.objs.size + 1 + 1 + 1, ol1), (sh.heap.objs.size + 1 + 1, of1), (sh.heap.objs.size + 1, oz1), (lt, listOf tv.toArray 0)] ++ own)) (fun i e ys => StrsAre e.1 (((rangeKs ((List.sum ws).fmod 16 + T') 8).map letter).drop i) ∧ StrsAre ys (((rangeKs ((List.sum ws).fmod 16 + T') 8).map letter).take i)) (its, nn) ⟨by simpa using hP1, .nil⟩ ?turn_15 ?fin_15
                                                                    case turn_15 =>
                                                                      intro i e ys v I oI C oC Dc m₂ hc tkc E' hi hR hv hC hx Fc Nc offc nec
                                                                      obtain ⟨its', nn'⟩ := e
                                                                      obtain ⟨hd1', hy⟩ := hR
                                                                      obtain ⟨ce, hce⟩ : ∃ ce, ((rangeKs ((List.sum ws).fmod 16 + T') 8).map letter)[i]'(by rw [hWl]; exact hi) = ce := ⟨_, rfl⟩
                                                                      rw [List.drop_eq_getElem_cons (by rw [hWl]; exact hi), hce] at hd1'
                                                                      dsimp only at hd1'
                                                                      cases hd1' with
                                                                      | cons _ tcx hrest =>
                                                                        rename_i its''
                                                                        dsimp only [LX, List.cons_append, List.nil_append] at Fc Nc ⊢
                                                                        simp only [LCg.Off3] at offc
                                                                        clear Nn
                                                                        (repeat ((fail_if_success (focus (with_reducible show wpAny _ _ (PySem.call (Value.ref _) _) _ _ _))); (first | (k_unfold; (try dsimp only)) | (k_end; wrow_close) | walk1 | (dsimp only; walk1) | (leave1; walk_say "STEP leave1"; try dsimp only) | fail "no step")))
                                                                        have hil : its''.length < 1000 := by
                                                                          have e := StrsAre.length hrest
                                                                          rw [List.length_drop, hWl] at e
                                                                          omega
                                                                        have N2 := News.re (l' := (l, listOf (Value.str ce tcx :: its'').toArray nn') :: (x, instObj 66 d) :: (d, dictOf (lexDict q1 q2 q3 q4 u1 t2' u3 u4 u5 u6 (lnAt ((List.sum ws).fmod 3) 8) f l) 4) :: (I, oI) :: (C, oC) :: (Dc, LCg.lst ys) :: ([(D, oD), (f, fo), (la, listOf #[.int (posAt ((List.sum ws).fmod 3) 8 : Int) tp'] 0), (fr, ofr), (cr, ocr), (cA, oA), (cX, oX)] ++ ([(cf, oc), (86, tabObj psT), (Dop, LCg.lst os), (l1, listOf fs.toArray n1), (sh.heap.objs.size + 1 + 1 + 1, ol1), (sh.heap.objs.size + 1 + 1, of1), (sh.heap.objs.size + 1, oz1), (lt, listOf tv.toArray 0)] ++ own))) Nc (by ((try dsimp only [Mine.LexLed, Mine.LX, List.cons_append, List.nil_append]); (repeat' (first | (with_reducible exact List.forall_mem_nil _) | (with_reducible refine List.forall_mem_cons.mpr ⟨?_, ?_⟩) | (with_reducible exact List.mem_cons_self) | (with_reducible refine List.mem_cons_of_mem _ ?_) | (intro p hp))); all_goals assumption))
                                                                        have hr' : ∀ p ∈ (I, oI) :: (C, oC) :: (Dc, LCg.lst ys) :: ([(D, oD), (f, fo), (la, listOf #[.int (posAt ((List.sum ws).fmod 3) 8 : Int) tp'] 0), (fr, ofr), (cr, ocr), (cA, oA), (cX, oX)] ++ ([(cf, oc), (86, tabObj psT), (Dop, LCg.lst os), (l1, listOf fs.toArray n1), (sh.heap.objs.size + 1 + 1 + 1, ol1), (sh.heap.objs.size + 1 + 1, of1), (sh.heap.objs.size + 1, oz1), (lt, listOf tv.toArray 0)] ++ own)), p.1 ≠ l :=
                                                                          List.forall_mem_cons.mpr ⟨Ne.symm offc.1.1, List.forall_mem_cons.mpr ⟨Ne.symm offc.1.2.1, List.forall_mem_cons.mpr ⟨Ne.symm offc.1.2.2, hr⟩⟩⟩
                                                                        dsimp only [List.append_nil]
                                                                        refine fold_q ?_
                                                                        intro qu15a hqu15a
                                                                        refine (pop_ct o4' g11 hil hr').use (by k_asm) (by k_asm) (by k_asm) N2 (by k_asm) rfl (by ktr_room) (by ktr_units) ?_
                                                                        rintro r news' hp1' tkp1 ⟨rfl, rfl⟩ Fp1 Np1
                                                                        refine hqu15a _ _ ?_
                                                                        clear N2 Nc Fc
                                                                        dsimp only
                                                                        (repeat ((fail_if_success (focus (with_reducible show PyProof.Rows.LCg.CompEnd _ _ _ _ _ _ _ _ _ _ _ _ _ _))); (first | (k_unfold; (try dsimp only)) | (k_end; wrow_close) | walk1 | (dsimp only; walk1) | (leave1; walk_say "STEP leave1"; try dsimp only) | fail "no step")))
                                                                        refine LCg.CompEnd.intro Fp1 Np1 _ ?sub_15 ?off_15 trivial ⟨(its'', nn' + 1), rfl, hrest, ?_⟩
                                                                        case sub_15 => ((try dsimp only [Mine.LexLed, Mine.LX, List.cons_append, List.nil_append]); (repeat' (first | (with_reducible exact List.forall_mem_nil _) | (with_reducible refine List.forall_mem_cons.mpr ⟨?_, ?_⟩) | (with_reducible exact List.mem_cons_self) | (with_reducible refine List.mem_cons_of_mem _ ?_) | (intro p hp))); all_goals assumption)
                                                                        case off_15 =>
                                                                          simp only [LCg.Off3]
                                                                          exact offc
                                                                        rw [List.take_succ_eq_append_getElem (by rw [hWl]; exact hi), hce]
                                                                        exact StrsAre.append' hy (.cons _ _ .nil)
                                                                    case fin_15 =>
                                                                      rintro ⟨its', nn'⟩ ys ⟨hd8, hy8⟩
                                                                      rw [List.drop_of_length_le (by rw [hWl]; exact Nat.le_refl _)] at hd8
                                                                      rw [List.take_of_length_le (by rw [hWl]; exact Nat.le_refl _)] at hy8
                                                                      dsimp only at hd8
                                                                      cases hd8
                                                                      rename Fr _ _ _ _ => Fz
                                                                      clear Fz Nn
                                                                      intro Dn hn tkn Fn Nn on
                                                                      dsimp only [LX, List.cons_append, List.nil_append] at Fn Nn ⊢
                                                                      simp only [LCg.Off1] at on
                                                                      (repeat ((fail_if_success (focus (with_reducible show wpAny _ _ (PySem.call (Value.ref _) _) _ _ _))); (first | (k_unfold; (try dsimp only)) | (k_end; wrow_close) | walk1 | (dsimp only; walk1) | (leave1; walk_say "STEP leave1"; try dsimp only) | fail "no step")))
                                                                      as_aux_lemma =>
                                                                        exact by
                                                                          obtain ⟨hT0, hT1⟩ := turns_sum hlen3 (pre.length + 1)
                                                                          rw [hns, show pre ++ n :: post = (pre ++ [n]) ++ post by simp, show pre.length + 1 = (pre ++ [n]).length by simp, List.take_left, List.sum_append, List.sum_singleton, ← hct, hT] at hT0 hT1
                                                                          refine fold_q ?_
                                                                          intro qu16a hqu16a
                                                                          refine (letters_ct (by omega) (by omega) (by omega) (by omega) (by omega) (by omega)).use (by k_asm) (by k_asm) (by k_asm) Nn (by k_asm) rfl (by ktr_room) (by ktr_units) ?_
                                                                          rintro r news' hl2 tkl2 ⟨l2, vs2, n2, rfl, hlt2, hS2, rfl⟩ Fl2 Nl2
                                                                          refine hqu16a _ _ ?_
                                                                          clear Fn Nn
                                                                          dsimp only
                                                                          (repeat ((fail_if_success (focus (with_reducible show wpAny _ _ (PySem.compareOp _ _ _) _ _ _))); (first | (k_unfold; (try dsimp only)) | (k_end; wrow_close) | walk1 | (dsimp only; walk1) | (leave1; walk_say "STEP leave1"; try dsimp only) | fail "no step")))
                                                                          refine ne_strs_same Nl2 (a := Dn) (b := l2) (.tail _ (.head _)) hy8 (.head _) hS2 (by intro x hx; obtain ⟨m, _, rfl⟩ := List.mem_map.mp hx; exact ok_letter m) (by ktr_units) ?_
                                                                          have Nl3 := News.re Nl2 fun p hp => .tail _ hp
                                                                          clear Nl2
                                                                          (repeat ((fail_if_success (focus (with_reducible show wpAny _ _ (PySem.call (Value.builtin "str.join") _) _ _ _))); (first | (k_unfold; (try dsimp only)) | (k_end; wrow_close) | walk1 | (dsimp only; walk1) | (leave1; walk_say "STEP leave1"; try dsimp only) | fail "no step")))
                                                                          as_aux_lemma =>
                                                                            exact by
                                                                              rename News _ _ _ _ => Nj
                                                                              refine join_list (items := ys.toArray) (ys := ((rangeKs ((List.sum ws).fmod 16 + T') 8).map letter)) ?hl_17 ?hi_17 (wheel_sum _) ?_
                                                                              case hl_17 => exact ⟨_, (Nj (Dn, LCg.lst ys) (.head _)).1, rfl, _, rfl⟩
                                                                              case hi_17 => simpa using hy8
                                                                              intro tj kj
                                                                              rw [wheel_word (by omega)]
                                                                              dsimp only
                                                                              (repeat ((fail_if_success (focus (with_reducible show wpAny _ _ (PySem.call (Value.builtin "str.join") _) _ _ _))); (first | (k_unfold; (try dsimp only)) | (k_end; wrow_close) | walk1 | (dsimp only; walk1) | (leave1; walk_say "STEP leave1"; try dsimp only) | fail "no step")))
                                                                              refine join_list (items := fs.toArray) (ys := ((rangeKs ((List.sum ws).fmod 16) 8).map letter)) ?hl2_17 ?hi2_17 (wheel_sum _) ?_
                                                                              case hl2_17 => exact ⟨_, (Nj (l1, listOf fs.toArray n1) (by k_mem)).1, rfl, _, rfl⟩
                                                                              case hi2_17 => simpa using hS
                                                                              intro tj2 kj2
                                                                              rw [wheel_word p0]
                                                                              dsimp only
                                                                              (repeat ((fail_if_success (focus (with_reducible show wpAny _ _ (PySem.call (Value.ref _) _) _ _ _))); (first | (k_unfold; (try dsimp only)) | (k_end; wrow_close) | walk1 | (dsimp only; walk1) | (leave1; walk_say "STEP leave1"; try dsimp only) | fail "no step")))
                                                                              rename Fr _ _ _ _ => Fw
                                                                              rw [way_if] at Fw ⊢
                                                                              obtain ⟨wy0, wy1⟩ := way_bounds T'
                                                                              refine fold_q ?_
                                                                              intro qu17a hqu17a
                                                                              refine (lev_ct (word_len _) (word_len _) (word_mem _) (word_mem _) wy0 (by omega)).use (by k_asm) (by k_asm) (by k_asm) Nj (by k_asm) rfl (by ktr_room) (by ktr_units) ?_
                                                                              rintro r news' hv1 tkv1 ⟨tv1, rfl, rfl⟩ Fv1 Nv1
                                                                              refine hqu17a _ _ ?_
                                                                              clear Fw Nj
                                                                              rw [lev_one p0 p1 hT0]
                                                                              dsimp only
                                                                              (repeat ((fail_if_success (focus (with_reducible show wpAny _ _ (PySem.compareOp _ (Value.int _ _) (Value.int _ _)) _ _ _))); (first | (k_unfold; (try dsimp only)) | (k_end; wrow_close) | walk1 | (dsimp only; walk1) | (leave1; walk_say "STEP leave1"; try dsimp only) | fail "no step")))
                                                                              refine ne_int_eq rfl ?_
                                                                              (repeat ((fail_if_success (focus (with_reducible show wpAny _ _ (PySem.call (Value.builtin "str.join") _) _ _ _))); (first | (k_unfold; (try dsimp only)) | (k_end; wrow_close) | walk1 | (dsimp only; walk1) | (leave1; walk_say "STEP leave1"; try dsimp only) | fail "no step")))
                                                                              rename StrsAre os _ => hRo
                                                                              rw [other_map] at hRo
                                                                              refine join_list (items := os.toArray) (ys := ((rangeKs ((List.sum ws).fmod 16 + 8) 8).map letter)) ?hl3_17 ?hi3_17 (wheel_sum _) ?_
                                                                              case hl3_17 => exact ⟨_, (Nv1 (Dop, LCg.lst os) (by k_mem)).1, rfl, _, rfl⟩
                                                                              case hi3_17 => simpa using hRo
                                                                              intro tj3 kj3
                                                                              rw [wheel_word (by omega)]
                                                                              dsimp only
                                                                              (repeat ((fail_if_success (focus (with_reducible show wpAny _ _ (PySem.call (Value.builtin "str.join") _) _ _ _))); (first | (k_unfold; (try dsimp only)) | (k_end; wrow_close) | walk1 | (dsimp only; walk1) | (leave1; walk_say "STEP leave1"; try dsimp only) | fail "no step")))
                                                                              refine join_list (items := ys.toArray) (ys := ((rangeKs ((List.sum ws).fmod 16 + T') 8).map letter)) ?hl4_17 ?hi4_17 (wheel_sum _) ?_
                                                                              case hl4_17 => exact ⟨_, (Nv1 (Dn, LCg.lst ys) (.head _)).1, rfl, _, rfl⟩
                                                                              case hi4_17 => simpa using hy8
                                                                              intro tj4 kj4
                                                                              rw [wheel_word (by omega)]
                                                                              dsimp only
                                                                              (repeat ((fail_if_success (focus (with_reducible show wpAny _ _ (PySem.call (Value.ref _) _) _ _ _))); (first | (k_unfold; (try dsimp only)) | (k_end; wrow_close) | walk1 | (dsimp only; walk1) | (leave1; walk_say "STEP leave1"; try dsimp only) | fail "no step")))
                                                                              as_aux_lemma =>
                                                                                exact by
                                                                                  refine fold_q ?_
                                                                                  intro qu18a hqu18a
                                                                                  refine (lev_ct (word_len _) (word_len _) (word_mem _) (word_mem _) (by omega) (by omega)).use (by k_asm) (by k_asm) (by k_asm) Nv1 (by k_asm) rfl (by ktr_room) (by ktr_units) ?_
                                                                                  rintro r news' hv3 tkv3 ⟨tv3, rfl, rfl⟩ Fv3 Nv3
                                                                                  refine hqu18a _ _ ?_
                                                                                  clear Nv1
                                                                                  rw [lev_two p0 p1 hT0]
                                                                                  dsimp only
                                                                                  (repeat ((fail_if_success (focus (with_reducible show wpAny _ _ (PySem.compareOp _ (Value.int _ _) (Value.int _ _)) _ _ _))); (first | (k_unfold; (try dsimp only)) | (k_end; wrow_close) | walk1 | (dsimp only; walk1) | (leave1; walk_say "STEP leave1"; try dsimp only) | fail "no step")))
                                                                                  refine ne_int_eq rfl ?_
                                                                                  (repeat ((fail_if_success (focus (with_reducible show wpAny _ _ (pyIter _) _ _ _))); (first | (k_unfold; (try dsimp only)) | (k_end; wrow_close) | walk1 | (dsimp only; walk1) | (leave1; walk_say "STEP leave1"; try dsimp only) | fail "no step")))
                                                                                  rename News _ _ _ _ => Nv4
                                                                                  rename Fr _ _ _ _ => Fv4
                                                                                  have N0 : News (ghostOf sh.heap [(90, 86)]) (sh.heap.objs.size) _ ((l, listOf ([] : List Value).toArray nn') :: LX x d D f la fr l q1 q2 q3 q4 u1 u3 u4 u5 u6 0 oD fo ofr [(cr, ocr), (cA, oA), (cX, oX)] (lnAt ((List.sum ws).fmod 3) 8) t2' (posAt ((List.sum ws).fmod 3) 8) tp' ([(cf, oc), (86, tabObj psT), (Dop, LCg.lst os), (l1, listOf fs.toArray n1), (sh.heap.objs.size + 1 + 1 + 1, ol1), (sh.heap.objs.size + 1 + 1, of1), (sh.heap.objs.size + 1, oz1), (lt, listOf tv.toArray 0)] ++ (Dn, listOf ys.toArray ys.length) :: own)) := News.re Nv4 (by ((try dsimp only [Mine.LexLed, Mine.LX, List.cons_append, List.nil_append]); (repeat' (first | (with_reducible exact List.forall_mem_nil _) | (with_reducible refine List.forall_mem_cons.mpr ⟨?_, ?_⟩) | (with_reducible exact List.mem_cons_self) | (with_reducible refine List.mem_cons_of_mem _ ?_) | (intro p hp))); all_goals assumption))
                                                                                  clear Nv4
                                                                                  have hys8' : ys.length = 8 := by have e := StrsAre.length hy8; rw [hWl] at e; exact e
                                                                                  refine any_loop (l := Dn) (vs := ys) (nn := ys.length) (fun k : Nat => (l, listOf (ys.take k).toArray (nn' + k)) :: LX x d D f la fr l q1 q2 q3 q4 u1 u3 u4 u5 u6 0 oD fo ofr [(cr, ocr), (cA, oA), (cX, oX)] (lnAt ((List.sum ws).fmod 3) 8) t2' (posAt ((List.sum ws).fmod 3) 8) tp' ([(cf, oc), (86, tabObj psT), (Dop, LCg.lst os), (l1, listOf fs.toArray n1), (sh.heap.objs.size + 1 + 1 + 1, ol1), (sh.heap.objs.size + 1 + 1, of1), (sh.heap.objs.size + 1, oz1), (lt, listOf tv.toArray 0)] ++ (Dn, listOf ys.toArray ys.length) :: own)) (fun i k => k = i) (((l, listOf #[] 0) :: LX x d D f la fr l q1 q2 q3 q4 u1 u3 u4 u5 u6 0 oD fo ofr [(cr, ocr), (cA, oA), (cX, oX)] (lnAt ((List.sum ws).fmod 3) 8) t2' (posAt ((List.sum ws).fmod 3) 8) tp' ([(cf, oc), (86, tabObj psT), (Dop, LCg.lst os), (l1, listOf fs.toArray n1), (sh.heap.objs.size + 1 + 1 + 1, ol1), (sh.heap.objs.size + 1 + 1, of1), (sh.heap.objs.size + 1, oz1), (lt, listOf tv.toArray 0)] ++ (Dn, listOf ys.toArray ys.length) :: own)).map (·.1)) 0 (by rfl) (fun k => by k_mem) (fun k => by rfl) Fv4 N0 rfl ?turn_18 ?done_18
                                                                                  case turn_18 =>
                                                                                    rintro i v k hu tku own2 hv hoff2 rfl Fu Nu
                                                                                    refine fold_q ?_
                                                                                    intro qk3 hqk3
                                                                                    as_aux_lemma =>
                                                                                      exact by
                                                                                        clear Fv4 N0
                                                                                        obtain ⟨tvv, rfl, hss⟩ := strs_at hy8 hv
                                                                                        have hi8 : k < 8 := by rw [← hys8']; exact (List.getElem?_eq_some_iff.mp hv).1
                                                                                        dsimp only [LX, List.cons_append, List.nil_append] at Nu ⊢
                                                                                        (repeat ((fail_if_success (focus (with_reducible show wpAny _ _ (PySem.call (Value.ref _) _) _ _ _))); (first | (k_unfold; (try dsimp only)) | (k_end; wrow_close) | walk1 | (dsimp only; walk1) | (leave1; walk_say "STEP leave1"; try dsimp only) | fail "no step")))
                                                                                        have hr2 : ∀ p ∈ [(D, oD), (f, fo), (la, listOf #[.int (posAt ((List.sum ws).fmod 3) 8 : Int) tp'] 0), (fr, ofr), (cr, ocr), (cA, oA), (cX, oX)] ++ ([(cf, oc), (86, tabObj psT), (Dop, LCg.lst os), (l1, listOf fs.toArray n1), (sh.heap.objs.size + 1 + 1 + 1, ol1), (sh.heap.objs.size + 1 + 1, of1), (sh.heap.objs.size + 1, oz1), (lt, listOf tv.toArray 0)] ++ (Dn, listOf ys.toArray ys.length) :: (own ++ own2)), p.1 ≠ l := by
                                                                                          intro p hp
                                                                                          rcases List.mem_append.mp hp with hp | hp
                                                                                          · exact hRl p (List.mem_append_left _ hp)
                                                                                          rcases List.mem_append.mp hp with hp | hp
                                                                                          · exact hRl p (List.mem_append_right _ hp)
                                                                                          rcases List.mem_cons.mp hp with rfl | hp
                                                                                          · exact Ne.symm on.1
                                                                                          rcases List.mem_append.mp hp with hp | hp
                                                                                          · exact hoff p hp l (.head _)
                                                                                          · exact hoff2 p hp l (.head _)
                                                                                        dsimp only [List.cons_append, List.nil_append] at hr2
                                                                                        refine fold_q ?_
                                                                                        intro qu19a hqu19a
                                                                                        refine (push_ct o4' g11 (by rw [List.length_take]; omega) hr2).use (by k_asm) (by k_asm) (by k_asm) Nu (by k_asm) rfl (by ktr_room) (by ktr_units) ?_
                                                                                        rintro r news' hv2' tkv' ⟨rfl, rfl⟩ Fv Nv
                                                                                        refine hqu19a _ _ ?_
                                                                                        clear Fu Nu
                                                                                        dsimp only
                                                                                        (first | (k_unfold; (try dsimp only)) | (k_end; wrow_close) | walk1 | (dsimp only; walk1) | (leave1; walk_say "STEP leave1"; try dsimp only) | fail "no step")
                                                                                        refine hqk3 _ _ ?_
                                                                                        rw [← take_snoc hv] at Nv
                                                                                        refine any_end (k + 1) Fv Nv ?hn_19 ?ho_19 hoff2 (by rfl) rfl (fun z hz => if_neg hz)
                                                                                        case hn_19 =>
                                                                                          (try dsimp only [LX, List.cons_append, List.nil_append])
                                                                                          repeat (with_reducible refine cons_sub ?_)
                                                                                          exact fun p hp => List.mem_append_left _ hp
                                                                                        case ho_19 =>
                                                                                          intro p hp
                                                                                          repeat (with_reducible refine List.mem_cons_of_mem _ ?_)
                                                                                          exact List.mem_append_right _ hp
                                                                                  case done_18 =>
                                                                                    rintro k um hd2 tkd2 rfl Fd2 Nd2
                                                                                    clear Fv4 N0
                                                                                    rw [List.take_length] at Nd2
                                                                                    dsimp only [LX, List.cons_append, List.nil_append] at Nd2 ⊢
                                                                                    (first | (k_unfold; (try dsimp only)) | (k_end; wrow_close) | walk1 | (dsimp only; walk1) | (leave1; walk_say "STEP leave1"; try dsimp only) | fail "no step")
                                                                                    refine hqk0 _ _ ?_
                                                                                    as_aux_lemma =>
                                                                                      exact by
                                                                                        refine kst_end (⟨T', td, ys, nn' + ys.length⟩ : WS) Fd2 Nd2 ?hn_20 ?ho_20 ?ha_20 trivial ?hk_20 ?hr_20 ?hp_20
                                                                                        case hn_20 => ((try dsimp only [Mine.LexLed, Mine.LX, List.cons_append, List.nil_append]); (repeat' (first | (with_reducible exact List.forall_mem_nil _) | (with_reducible refine List.forall_mem_cons.mpr ⟨?_, ?_⟩) | (with_reducible exact List.mem_cons_self) | (with_reducible refine List.mem_cons_of_mem _ ?_) | (intro p hp))); all_goals assumption)
                                                                                        case ho_20 =>
                                                                                          intro p hp
                                                                                          repeat (with_reducible refine List.mem_cons_of_mem _ ?_)
                                                                                          exact hp
                                                                                        case ha_20 => rfl
                                                                                        case hk_20 => exact List.forall_mem_cons.mpr ⟨by with_unfolding_all rfl, List.forall_mem_nil _⟩
                                                                                        case hr_20 =>
                                                                                          intro z z1 z2 z3
                                                                                          have z2' : z ≠ Str.ofString "turned" := z2 _ (.head _)
                                                                                          have z4 : z ≠ Str.ofString "letter" := by rintro rfl; exact absurd z3 (by decide)
                                                                                          have z5 : z ≠ Str.ofString "way" := by rintro rfl; exact absurd z3 (by decide)
                                                                                          have z6 : z ≠ Str.ofString "now" := by rintro rfl; exact absurd z3 (by decide)
                                                                                          simp only [if_neg z4, if_neg z5, if_neg z6]
                                                                                          exact e4 z z1 z2' z3
                                                                                        case hp_20 =>
                                                                                          refine ⟨?_, hy8⟩
                                                                                          show T' = (pre ++ [n]).sum
                                                                                          rw [List.sum_append, List.sum_singleton, ← hct, hT]
                                                    case done_11 =>
                                                      intro c u ht0 tk0 _ hP Ft0 Nt0
                                                      clear Fl2 Nl2
                                                      dsimp only [LX, List.cons_append, List.nil_append] at Nt0 ⊢
                                                      dsimp only [kstB] at Ft0
                                                      iterate 3 (first | (k_unfold; (try dsimp only)) | (k_end; wrow_close) | walk1 | (dsimp only; walk1) | (leave1; walk_say "STEP leave1"; try dsimp only) | fail "no step")
                                                      dsimp only
                                                      refine ⟨?_, ?_⟩
                                                      · refine goodW_bool Ft0 (by assumption) (raisesW_false ?_) ?_
                                                        · wrow_none_raised
                                                        · wrow_post
                                                      · exact ⟨GrownAt.of Nt0 (by k_mem), trivial⟩
end Mine
end
theorem PySem.Challenge.cw_pe0151_01_holds : PySem.Challenge.rw_pe0151_01.Holds := by
  exact Mine.law_holds
