import PyProof.Rows.All
import Wide.All
import OpenK.AllK
import Wide.FinOn
import PyProof.GenQ
import PyProof.EnumFor
import PyProof.EnumMake
import PyProof.EnumStmt
import PySem.Challenge.RW_wo0018_01
set_option Elab.async false

section -- WTop
open PySem PySem.W PyProof.Rows
set_option maxRecDepth 100000
set_option maxHeartbeats 8000000
namespace Mine
open_top hd for PySem.Challenge.rw_wo0018_01
end Mine
end

section -- F1
open PySem PySem.W PyProof.Rows
set_option maxRecDepth 100000
namespace Mine

noncomputable def flItems (xs : List (UInt64 × Tok)) : Array Value := (xs.map fun p => Value.float p.1 p.2).toArray
noncomputable def flAt (xs : List (UInt64 × Tok)) (i : Nat) : UInt64 := (xs[i]?.map (·.1)).getD 0
theorem flItems_at {xs : List (UInt64 × Tok)} {i : Nat} {v : Value} (h : (flItems xs)[i]? = some v) : ∃ t, v = .float (flAt xs i) t := by
  simp only [flItems, List.getElem?_toArray, List.getElem?_map, Option.map_eq_some_iff] at h
  obtain ⟨p, hp, rfl⟩ := h
  exact ⟨p.2, by simp [flAt, hp]⟩

section
variable {prog : Program} {w : World} {A : Around} {E : Value → Shared → Prop} {s : Shared}
theorem cmp_gt {P : Nat → Value → Prop} (val : Nat → UInt64) (hval : ∀ i v, P i v → ∃ t, v = .float (val i) t) :
    CmpOf prog w A .Gt P (fun i j => Float64.cmp (val i) (val j) == some Ordering.gt) := fun i j vi vj s Q E hi hj h => by
  obtain ⟨t, rfl⟩ := hval i vi hi
  obtain ⟨u, rfl⟩ := hval j vj hj
  exact AutoFloatOps.gt_0 h
theorem cmp_lt {P : Nat → Value → Prop} (val : Nat → UInt64) (hval : ∀ i v, P i v → ∃ t, v = .float (val i) t) :
    CmpOf prog w A .Lt P (fun i j => Float64.cmp (val i) (val j) == some Ordering.lt) := fun i j vi vj s Q E hi hj h => by
  obtain ⟨t, rfl⟩ := hval i vi hi
  obtain ⟨u, rfl⟩ := hval j vj hj
  exact AutoFloatOps.lt_0 h

noncomputable def fgt (a b : UInt64) : Bool := Float64.cmp a b == some Ordering.gt
noncomputable def flt (a b : UInt64) : Bool := Float64.cmp a b == some Ordering.lt
noncomputable def fmax3 (a b c : UInt64) : UInt64 := if fgt b a then (if fgt c b then c else b) else (if fgt c a then c else a)
noncomputable def fmin3 (a b c : UInt64) : UInt64 := if flt b a then (if flt c b then c else b) else (if flt c a then c else a)
noncomputable def fmin2 (a b : UInt64) : UInt64 := if flt b a then b else a

theorem best3 (bt : Nat → Nat → Bool) : argBest bt 2 = if bt 1 0 then (if bt 2 1 then 2 else 1) else (if bt 2 0 then 2 else 0) := by
  unfold argBest argBest argBest
  cases h1 : bt 1 0 <;> simp
theorem best2 (bt : Nat → Nat → Bool) : argBest bt 1 = if bt 1 0 then 1 else 0 := by
  unfold argBest argBest
  cases h1 : bt 1 0 <;> simp

theorem mid (xs : List (UInt64 × Tok)) (hh : A.handled = none) {op : CmpOp} {bt : Nat → Nat → Bool} (hn : 0 < xs.length)
    (hcmp : CmpOf prog w A.in1 op (fun i v => (flItems xs)[i]? = some v) bt) {Q : Value → Shared → Prop}
    (h : ∀ v h' tk, (flItems xs)[argBest bt (xs.length - 1)]? = some v → (∀ d o, s.heap.get? d = some o → h'.get? d = some o) → Q v { s with heap := h', toks := tk }) :
    wpAny (model prog w) A.in1 (pyIter (.ref s.heap.objs.size)) (fun it s₂ => ∃ I fp wr n P St bt, it = .ref I ∧ Walks prog w A.in1 I fp wr n P St ∧ St 0 s₂.heap ∧ (∀ b ∈ fp, b < s₂.heap.objs.size) ∧ 0 < n ∧ CmpOf prog w A.in1 op P bt ∧
      ∀ v h' tk, P (argBest bt (n - 1)) v → (∀ b o, b ∉ wr → s₂.heap.get? b = some o → h'.get? b = some o) → Q v { s₂ with heap := h', toks := tk }) E
      { s with heap := s.heap.push { cls := .type "tuple", data := .seq (flItems xs) } } := by
  have hT : (s.heap.push { cls := .type "tuple", data := .seq (flItems xs) }).IsTuple s.heap.objs.size (flItems xs) := ⟨_, Heap.get?_push_size _ rfl, rfl, 0, rfl⟩
  refine wpAny_pyIter_tuple hT ?_
  have hsz : (s.heap.push { cls := .type "tuple", data := .seq (flItems xs) }).objs.size = s.heap.objs.size + 1 := Heap.size_push ..
  refine ⟨_, [_, s.heap.objs.size], [_], _, _, _, _, rfl, Walks.tuple (A := A.in1) hh _ s.heap.objs.size (by rw [hsz]; exact Nat.ne_of_lt (Nat.lt_succ_self _)) (flItems xs),
    ⟨⟨_, Heap.get?_push_size _ rfl, rfl, rfl⟩, hT.push _⟩, fun d hd => ?_, by simpa [flItems] using hn, hcmp, fun v h' tk hP hk => ?_⟩
  · show d < ((s.heap.push _).push _).objs.size
    rw [Heap.size_push, hsz]
    rcases List.mem_cons.mp hd with rfl | hd
    · rw [hsz]; exact Nat.lt_succ_self _
    · rcases List.mem_cons.mp hd with rfl | hd
      · exact Nat.lt_succ_of_lt (Nat.lt_succ_self _)
      · cases hd
  · have hold : ∀ d o, s.heap.get? d = some o → h'.get? d = some o := fun d o e => by
      refine hk d o (fun hm => ?_) (Heap.get?_push_of_some _ (Heap.get?_push_of_some _ e))
      rcases List.mem_cons.mp hm with e1 | hm
      · have := Heap.lt_size e; rw [e1, hsz] at this; exact Nat.lt_irrefl _ (Nat.lt_of_succ_lt this)
      · cases hm
    have hs : (flItems xs).size - 1 = xs.length - 1 := by simp [flItems]
    exact h v h' tk (by rw [← hs]; exact hP) hold

theorem max3_call {a b c : UInt64} {t u x : Tok} {Q : Value → Shared → Prop} (hh : A.handled = none)
    (h : ∀ h' tk k, (∀ d o, s.heap.get? d = some o → h'.get? d = some o) → Q (.float (fmax3 a b c) k) { s with heap := h', toks := tk }) :
    wpAny (model prog w) A (call (.builtin "max") [.float a t, .float b u, .float c x]) Q E s := by
  refine call_max_three (mid [(a, t), (b, u), (c, x)] hh (by simp) (cmp_gt (flAt [(a, t), (b, u), (c, x)]) fun i v hv => flItems_at hv) fun v h' tk hv hk => ?_)
  have e : argBest (fun i j => Float64.cmp (flAt [(a, t), (b, u), (c, x)] i) (flAt [(a, t), (b, u), (c, x)] j) == some Ordering.gt) 2 = if fgt b a then (if fgt c b then 2 else 1) else (if fgt c a then 2 else 0) := best3 _
  have hv' : (flItems [(a, t), (b, u), (c, x)])[if fgt b a then (if fgt c b then 2 else 1) else (if fgt c a then 2 else 0)]? = some v := by rw [← e]; exact hv
  obtain ⟨k, hk'⟩ : ∃ k, v = .float (fmax3 a b c) k := by
    unfold fmax3
    by_cases h1 : fgt b a = true <;> by_cases h2 : fgt c b = true <;> by_cases h3 : fgt c a = true <;> simp [h1, h2, h3, flItems] at hv' ⊢ <;> exact ⟨_, hv'.symm⟩
  subst hk'
  exact h h' tk k hk
theorem min3_call {a b c : UInt64} {t u x : Tok} {Q : Value → Shared → Prop} (hh : A.handled = none)
    (h : ∀ h' tk k, (∀ d o, s.heap.get? d = some o → h'.get? d = some o) → Q (.float (fmin3 a b c) k) { s with heap := h', toks := tk }) :
    wpAny (model prog w) A (call (.builtin "min") [.float a t, .float b u, .float c x]) Q E s := by
  refine call_min_three (mid [(a, t), (b, u), (c, x)] hh (by simp) (cmp_lt (flAt [(a, t), (b, u), (c, x)]) fun i v hv => flItems_at hv) fun v h' tk hv hk => ?_)
  have e : argBest (fun i j => Float64.cmp (flAt [(a, t), (b, u), (c, x)] i) (flAt [(a, t), (b, u), (c, x)] j) == some Ordering.lt) 2 = if flt b a then (if flt c b then 2 else 1) else (if flt c a then 2 else 0) := best3 _
  have hv' : (flItems [(a, t), (b, u), (c, x)])[if flt b a then (if flt c b then 2 else 1) else (if flt c a then 2 else 0)]? = some v := by rw [← e]; exact hv
  obtain ⟨k, hk'⟩ : ∃ k, v = .float (fmin3 a b c) k := by
    unfold fmin3
    by_cases h1 : flt b a = true <;> by_cases h2 : flt c b = true <;> by_cases h3 : flt c a = true <;> simp [h1, h2, h3, flItems] at hv' ⊢ <;> exact ⟨_, hv'.symm⟩
  subst hk'
  exact h h' tk k hk
theorem min2_call {a b : UInt64} {t u : Tok} {Q : Value → Shared → Prop} (hh : A.handled = none)
    (h : ∀ h' tk k, (∀ d o, s.heap.get? d = some o → h'.get? d = some o) → Q (.float (fmin2 a b) k) { s with heap := h', toks := tk }) :
    wpAny (model prog w) A (call (.builtin "min") [.float a t, .float b u]) Q E s := by
  refine call_min_two (mid [(a, t), (b, u)] hh (by simp) (cmp_lt (flAt [(a, t), (b, u)]) fun i v hv => flItems_at hv) fun v h' tk hv hk => ?_)
  have e : argBest (fun i j => Float64.cmp (flAt [(a, t), (b, u)] i) (flAt [(a, t), (b, u)] j) == some Ordering.lt) 1 = if flt b a then 1 else 0 := best2 _
  have hv' : (flItems [(a, t), (b, u)])[if flt b a then 1 else 0]? = some v := by rw [← e]; exact hv
  obtain ⟨k, hk'⟩ : ∃ k, v = .float (fmin2 a b) k := by
    unfold fmin2
    by_cases h1 : flt b a = true <;> simp [h1, flItems] at hv' ⊢ <;> exact ⟨_, hv'.symm⟩
  subst hk'
  exact h h' tk k hk
end

section
variable {prog : Program} {w : World} {A : Around} {E : Value → Shared → Prop} {s : Shared} {h₀ : Heap} {L : Addr} {m : Str → Option Value} {news : List (Addr × Obj)}
theorem max3_K {a b c : UInt64} {t u x : Tok} {Q : Value → Shared → Prop} (hh : A.handled = none) (F : Fr h₀ L s.heap m) (N : News h₀ L s.heap news)
    (h : ∀ h' tk k, Fr h₀ L h' m → News h₀ L h' news → Q (.float (fmax3 a b c) k) { s with heap := h', toks := tk }) :
    wpAny (model prog w) A (call (.builtin "max") [.float a t, .float b u, .float c x]) Q E s :=
  max3_call hh fun h' tk k hk => h h' tk k (F.grownK hk) (N.grown hk)
theorem min3_K {a b c : UInt64} {t u x : Tok} {Q : Value → Shared → Prop} (hh : A.handled = none) (F : Fr h₀ L s.heap m) (N : News h₀ L s.heap news)
    (h : ∀ h' tk k, Fr h₀ L h' m → News h₀ L h' news → Q (.float (fmin3 a b c) k) { s with heap := h', toks := tk }) :
    wpAny (model prog w) A (call (.builtin "min") [.float a t, .float b u, .float c x]) Q E s :=
  min3_call hh fun h' tk k hk => h h' tk k (F.grownK hk) (N.grown hk)
theorem min2_K {a b : UInt64} {t u : Tok} {Q : Value → Shared → Prop} (hh : A.handled = none) (F : Fr h₀ L s.heap m) (N : News h₀ L s.heap news)
    (h : ∀ h' tk k, Fr h₀ L h' m → News h₀ L h' news → Q (.float (fmin2 a b) k) { s with heap := h', toks := tk }) :
    wpAny (model prog w) A (call (.builtin "min") [.float a t, .float b u]) Q E s :=
  min2_call hh fun h' tk k hk => h h' tk k (F.grownK hk) (N.grown hk)
end
end Mine
end

section -- C0
open PySem PySem.W PyProof.Rows
set_option maxRecDepth 100000
namespace Mine
theorem off_C0 : True := by
  w_top off
  trivial
noncomputable abbrev PR : Program := PySem.Challenge.rw_wo0018_01.row.prog
noncomputable abbrev PV : Program := hd.view_39

theorem kfilled : (PySem.Challenge.rw_wo0018_01 = PySem.Challenge.rw_wo0018_01 ∧ hd.heap_39 = hd.heap_39) := by
  k_fill
  exact ⟨rfl, rfl⟩

/-- what a call of the def at f with the values vs asks of its caller; dn: how many frames deep it goes -/
noncomputable def Con (w : World) (mean : ExcName → Option Value) (mg mb : Str → Option Value) (f : Addr) (vs : List Value) (dn : Nat) (Pre : List (Addr × Obj) → Prop) (Out : List (Addr × Obj) → Value → List (Addr × Obj) → Prop) : Prop :=
  ∀ (dp un : Nat) (gd : Option (List Code)) (cn : Str) (cs : Scope) (a : Addr) (ccd : Value) (cl : List (Str × Addr)) (outer : List Env) (A₀ : Around) (base h₀ : Heap) (L : Addr) (m : Str → Option Value) (news : List (Addr × Obj)) (s : Shared) (Q E : Value → Shared → Prop),
    Below A₀ base outer h₀ → Fr h₀ L s.heap m → (hd.heap_39 w.params).In h₀ → News h₀ L s.heap news → Top PV [] mean mg mb h₀ → cs.kind = .function → dp + dn < recursionLimit → un + 8 * dn < cLine → Pre news →
    (∀ v tl h' tk', Fr h₀ L h' m → News h₀ L h' (tl ++ news) → (∀ q ∈ news, ∀ p ∈ tl, q.1 < p.1) → Out news v tl → Q v { s with heap := h', toks := tk' }) →
    wpAny (model PR w) (ktrTop dp un gd cn cs L a ccd cl outer) (call (.ref f) vs) Q E s

theorem Con.use {w : World} {mean : ExcName → Option Value} {mg mb : Str → Option Value} {f : Addr} {vs : List Value} {dn : Nat} {Pre : List (Addr × Obj) → Prop} {Out : List (Addr × Obj) → Value → List (Addr × Obj) → Prop}
    {dp un : Nat} {gd : Option (List Code)} {cn : Str} {cs : Scope} {a : Addr} {ccd : Value} {cl : List (Str × Addr)} {outer : List Env} {A₀ : Around} {base h₀ : Heap} {L : Addr} {m : Str → Option Value} {news : List (Addr × Obj)} {s : Shared} {Q E : Value → Shared → Prop}
    (B : Below A₀ base outer h₀) (F : Fr h₀ L s.heap m) (X : (hd.heap_39 w.params).In h₀) (N : News h₀ L s.heap news) (T : Top PV [] mean mg mb h₀) (hk : cs.kind = .function)
    (C : Con w mean mg mb f vs dn Pre Out) (hd : dp + dn < recursionLimit) (hu : un + 8 * dn < cLine) (hp : Pre news)
    (ret : ∀ v tl h' tk', Fr h₀ L h' m → News h₀ L h' (tl ++ news) → (∀ q ∈ news, ∀ p ∈ tl, q.1 < p.1) → Out news v tl → Q v { s with heap := h', toks := tk' }) :
    wpAny (model PR w) (ktrTop dp un gd cn cs L a ccd cl outer) (call (.ref f) vs) Q E s :=
  C _ _ _ _ _ _ _ _ _ _ _ _ _ _ _ _ _ _ B F X N T hk hd hu hp ret

/-- the count of the tokens is forgotten: a sum of them is carried by every later step -/
theorem any_tk {α : Type} {prog : Program} {w : World} {A : Around} {t : Sem α} {Q : α → Shared → Prop} {E : Value → Shared → Prop} {h : Heap} {g : Array GenState} {d : Drawn} {a b : Nat} {o : OsState}
    (k : ∀ tk, wpAny (model prog w) A t Q E ⟨h, g, d, tk, o⟩) : wpAny (model prog w) A t Q E ⟨h, g, d, a + b, o⟩ := k _
theorem lt36 {n x : Int} (hn : n = 5 ∨ n = 6 ∨ n = 7) (h : 0 ≤ x ∧ x < 3 * n) : x < 36 := by omega
theorem sm_b1 {a b : Nat} (h : 2 ≤ a ∧ a ≤ 5) (k : 0 < b ∧ b ≤ 5) : -2 ^ 62 ≤ ((min a b : Nat) : Int) + 1 := by omega
theorem sm_b2 {a b : Nat} (h : 2 ≤ a ∧ a ≤ 5) (k : 0 < b ∧ b ≤ 5) : ((min a b : Nat) : Int) + 1 < 2 ^ 62 := by omega
theorem le1000 {n : Int} {k i : Nat} (hn : n = 5 ∨ n = 6 ∨ n = 7) (h : k = n.toNat) (hi : i < k) : i ≤ 1000 := by omega
theorem len9 {n : Int} {vs : List Value} (hn : n = 5 ∨ n = 6 ∨ n = 7) (h : vs.length = n.toNat) : vs.length ≤ 1000 := by omega
theorem pos3 {n : Int} (h : 0 < n) : 0 < 3 * n := by omega
theorem lt5 {j k : Nat} (h : 2 ≤ k ∧ k ≤ 5) (hj : j < k) : (j : Int) < 5 := by omega
theorem fourth_b {n g k : Int} (h5 : 5 ≤ n ∧ n ≤ 7) (hg : 0 ≤ g) (hk : k < 0 + ((3 * n - 2 - 0).toNat : Int)) : 0 ≤ 3 * n + g - k := by omega
noncomputable abbrev NoPre : List (Addr × Obj) → Prop := fun _ => True
noncomputable abbrev tupO (vs : List Value) : Obj := { cls := .type "tuple", data := .seq vs.toArray }

/-- a fresh tuple of three floats -/
noncomputable def Tup3 (x : UInt64 × UInt64 × UInt64) (_ : List (Addr × Obj)) (v : Value) (tl : List (Addr × Obj)) : Prop :=
  ∃ D t1 t2 t3, v = .ref D ∧ tl = [(D, tupO [.float x.1 t1, .float x.2.1 t2, .float x.2.2 t3])]

/-- what comes back, its outcome opened -/
theorem el_tup {x : UInt64 × UInt64 × UInt64} {news : List (Addr × Obj)} {R : Value → Heap → Tok → Prop} {A1 : Heap → Prop} {A2 : List (Addr × Obj) → Heap → Prop} {A3 : List (Addr × Obj) → Prop}
    (h : ∀ D t1 t2 t3 h' tk', A1 h' → A2 [(D, tupO [.float x.1 t1, .float x.2.1 t2, .float x.2.2 t3])] h' → A3 [(D, tupO [.float x.1 t1, .float x.2.1 t2, .float x.2.2 t3])] → R (.ref D) h' tk') :
    ∀ v tl h' tk', A1 h' → A2 tl h' → A3 tl → Tup3 x news v tl → R v h' tk' := by
  rintro v tl h' tk' a1 a2 a3 ⟨D, t1, t2, t3, rfl, rfl⟩
  (try ((with_reducible show wpAny _ _ _ _ _ _); k_fold)); (try (with_reducible refine any_tk ?_; intro _))
  exact h D t1 t2 t3 h' tk' a1 a2 a3
theorem tup3 {x : UInt64 × UInt64 × UInt64} {a b c : UInt64} {t1 t2 t3 : Tok} {news : List (Addr × Obj)} {D : Addr} (h : x = (a, b, c)) : Tup3 x news (.ref D) [(D, tupO [.float a t1, .float b t2, .float c t3])] := by
  subst h; exact ⟨D, t1, t2, t3, rfl, rfl⟩
theorem ord1 {news : List (Addr × Obj)} {D : Addr} {o : Obj} (h : ∀ p ∈ news, p.1 < D) : ∀ q ∈ news, ∀ p ∈ [(D, o)], q.1 < p.1 := by
  intro q hq p hp
  rw [List.mem_singleton.mp hp]
  exact h q hq

noncomputable def feq (a b : UInt64) : Bool := Float64.cmp a b == some Ordering.eq
noncomputable def rgbF (r g b : UInt64) : UInt64 × UInt64 × UInt64 :=
  if feq (fmin3 r g b) (fmax3 r g b) then (0, 0, fmax3 r g b) else
  ((Float64.divmod (Float64.div (if feq r (fmax3 r g b) then Float64.sub (Float64.div (Float64.sub (fmax3 r g b) b) (Float64.sub (fmax3 r g b) (fmin3 r g b))) (Float64.div (Float64.sub (fmax3 r g b) g) (Float64.sub (fmax3 r g b) (fmin3 r g b)))
    else if feq g (fmax3 r g b) then Float64.sub (Float64.add 4611686018427387904 (Float64.div (Float64.sub (fmax3 r g b) r) (Float64.sub (fmax3 r g b) (fmin3 r g b)))) (Float64.div (Float64.sub (fmax3 r g b) b) (Float64.sub (fmax3 r g b) (fmin3 r g b)))
    else Float64.sub (Float64.add 4616189618054758400 (Float64.div (Float64.sub (fmax3 r g b) g) (Float64.sub (fmax3 r g b) (fmin3 r g b)))) (Float64.div (Float64.sub (fmax3 r g b) r) (Float64.sub (fmax3 r g b) (fmin3 r g b)))) 4618441417868443648) 4607182418800017408).snd,
   Float64.div (Float64.sub (fmax3 r g b) (fmin3 r g b)) (fmax3 r g b), fmax3 r g b)
noncomputable def rgbOk (r g b : UInt64) : Bool := feq (fmin3 r g b) (fmax3 r g b) || (!Float64.isZero (fmax3 r g b) && !Float64.isZero (Float64.sub (fmax3 r g b) (fmin3 r g b)))

theorem rgbF_1 {r g b : UInt64} (h : feq (fmin3 r g b) (fmax3 r g b) = true) : rgbF r g b = (0, 0, fmax3 r g b) := by unfold rgbF; rw [if_pos h]
theorem rgbF_2 {r g b : UInt64} (h : feq (fmin3 r g b) (fmax3 r g b) = false) (h2 : feq r (fmax3 r g b) = true) : rgbF r g b = ((Float64.divmod (Float64.div (Float64.sub (Float64.div (Float64.sub (fmax3 r g b) b) (Float64.sub (fmax3 r g b) (fmin3 r g b))) (Float64.div (Float64.sub (fmax3 r g b) g) (Float64.sub (fmax3 r g b) (fmin3 r g b)))) 4618441417868443648) 4607182418800017408).snd, Float64.div (Float64.sub (fmax3 r g b) (fmin3 r g b)) (fmax3 r g b), fmax3 r g b) := by
  unfold rgbF; rw [if_neg (by rw [h]; exact Bool.false_ne_true), if_pos h2]
theorem rgbF_3 {r g b : UInt64} (h : feq (fmin3 r g b) (fmax3 r g b) = false) (h2 : feq r (fmax3 r g b) = false) (h3 : feq g (fmax3 r g b) = true) : rgbF r g b = ((Float64.divmod (Float64.div (Float64.sub (Float64.add 4611686018427387904 (Float64.div (Float64.sub (fmax3 r g b) r) (Float64.sub (fmax3 r g b) (fmin3 r g b)))) (Float64.div (Float64.sub (fmax3 r g b) b) (Float64.sub (fmax3 r g b) (fmin3 r g b)))) 4618441417868443648) 4607182418800017408).snd, Float64.div (Float64.sub (fmax3 r g b) (fmin3 r g b)) (fmax3 r g b), fmax3 r g b) := by
  unfold rgbF; rw [if_neg (by rw [h]; exact Bool.false_ne_true), if_neg (by rw [h2]; exact Bool.false_ne_true), if_pos h3]
theorem rgbF_4 {r g b : UInt64} (h : feq (fmin3 r g b) (fmax3 r g b) = false) (h2 : feq r (fmax3 r g b) = false) (h3 : feq g (fmax3 r g b) = false) : rgbF r g b = ((Float64.divmod (Float64.div (Float64.sub (Float64.add 4616189618054758400 (Float64.div (Float64.sub (fmax3 r g b) g) (Float64.sub (fmax3 r g b) (fmin3 r g b)))) (Float64.div (Float64.sub (fmax3 r g b) r) (Float64.sub (fmax3 r g b) (fmin3 r g b)))) 4618441417868443648) 4607182418800017408).snd, Float64.div (Float64.sub (fmax3 r g b) (fmin3 r g b)) (fmax3 r g b), fmax3 r g b) := by
  unfold rgbF; rw [if_neg (by rw [h]; exact Bool.false_ne_true), if_neg (by rw [h2]; exact Bool.false_ne_true), if_neg (by rw [h3]; exact Bool.false_ne_true)]
theorem rgbOk_1 {r g b : UInt64} (hok : rgbOk r g b = true) (h : feq (fmin3 r g b) (fmax3 r g b) = false) (h1 : Float64.isZero (fmax3 r g b) = true) : False := by
  unfold rgbOk at hok; rw [h, h1] at hok; simp at hok
theorem rgbOk_2 {r g b : UInt64} (hok : rgbOk r g b = true) (h : feq (fmin3 r g b) (fmax3 r g b) = false) (h1 : Float64.isZero (Float64.sub (fmax3 r g b) (fmin3 r g b)) = true) : False := by
  unfold rgbOk at hok; rw [h, h1] at hok; simp at hok


noncomputable def hxF (h : UInt64) : UInt64 := Float64.mul h 4618441417868443648
noncomputable def hiF (h : UInt64) : Int := Flt.toInt Float64.truncOf (hxF h)
noncomputable def hfF (h : UInt64) : UInt64 := Float64.sub (hxF h) (Float64.ofInt (hiF h))
noncomputable def hpF (s v : UInt64) : UInt64 := Float64.mul v (Float64.sub 4607182418800017408 s)
noncomputable def hqF (h s v : UInt64) : UInt64 := Float64.mul v (Float64.sub 4607182418800017408 (Float64.mul s (hfF h)))
noncomputable def htF (h s v : UInt64) : UInt64 := Float64.mul v (Float64.sub 4607182418800017408 (Float64.mul s (Float64.sub 4607182418800017408 (hfF h))))
noncomputable def hsvF (h s v : UInt64) : UInt64 × UInt64 × UInt64 :=
  if feq s 0 then (v, v, v) else
  if (hiF h).fmod 6 = 0 then (v, htF h s v, hpF s v) else
  if (hiF h).fmod 6 = 1 then (hqF h s v, v, hpF s v) else
  if (hiF h).fmod 6 = 2 then (hpF s v, v, htF h s v) else
  if (hiF h).fmod 6 = 3 then (hpF s v, hqF h s v, v) else
  if (hiF h).fmod 6 = 4 then (htF h s v, hpF s v, v) else (v, hpF s v, hqF h s v)
noncomputable def hsvOk (h : UInt64) : Bool := !Float64.isNaN (hxF h) && (!Float64.isInf (hxF h) && decide ((hiF h).natAbs < 18446744073709551616))
theorem hsvOk_nan {h : UInt64} (hok : hsvOk h = true) (e : Float64.isNaN (hxF h) = true) : False := by
  unfold hsvOk at hok; rw [e] at hok; cases hok
theorem hsvOk_inf {h : UInt64} (hok : hsvOk h = true) (e : Float64.isInf (hxF h) = true) : False := by
  unfold hsvOk at hok; rw [e] at hok; simp at hok
theorem big_line : 18446744073709551616 ≤ 2 ^ 1024 - 2 ^ 970 := by decide
theorem hsvOk_big {h : UInt64} (hok : hsvOk h = true) (e : 2 ^ 1024 - 2 ^ 970 ≤ (hiF h).natAbs) : False := by
  unfold hsvOk at hok
  have h1 := of_decide_eq_true (Bool.and_eq_true_iff.mp (Bool.and_eq_true_iff.mp hok).2).2
  exact Nat.lt_irrefl _ (Nat.lt_of_lt_of_le h1 (Nat.le_trans big_line e))
theorem hsvF_z {h s v : UInt64} (e : feq s 0 = true) : hsvF h s v = (v, v, v) := by unfold hsvF; rw [if_pos e]
theorem hsvF_n {h s v : UInt64} (e : feq s 0 = false) : hsvF h s v = if (hiF h).fmod 6 = 0 then (v, htF h s v, hpF s v) else
  if (hiF h).fmod 6 = 1 then (hqF h s v, v, hpF s v) else
  if (hiF h).fmod 6 = 2 then (hpF s v, v, htF h s v) else
  if (hiF h).fmod 6 = 3 then (hpF s v, hqF h s v, v) else
  if (hiF h).fmod 6 = 4 then (htF h s v, hpF s v, v) else (v, hpF s v, hqF h s v) := by unfold hsvF; rw [if_neg (by rw [e]; exact Bool.false_ne_true)]
theorem hsvF_0 {h s v : UInt64} (e : feq s 0 = false) (h0 : (hiF h).fmod 6 = 0) : hsvF h s v = (v, htF h s v, hpF s v) := by rw [hsvF_n e, if_pos h0]
theorem hsvF_1 {h s v : UInt64} (e : feq s 0 = false) (h0 : (hiF h).fmod 6 = 1) : hsvF h s v = (hqF h s v, v, hpF s v) := by rw [hsvF_n e, h0]; rfl
theorem hsvF_2 {h s v : UInt64} (e : feq s 0 = false) (h0 : (hiF h).fmod 6 = 2) : hsvF h s v = (hpF s v, v, htF h s v) := by rw [hsvF_n e, h0]; rfl
theorem hsvF_3 {h s v : UInt64} (e : feq s 0 = false) (h0 : (hiF h).fmod 6 = 3) : hsvF h s v = (hpF s v, hqF h s v, v) := by rw [hsvF_n e, h0]; rfl
theorem hsvF_4 {h s v : UInt64} (e : feq s 0 = false) (h0 : (hiF h).fmod 6 = 4) : hsvF h s v = (htF h s v, hpF s v, v) := by rw [hsvF_n e, h0]; rfl
theorem hsvF_5 {h s v : UInt64} (e : feq s 0 = false) (h0 : (hiF h).fmod 6 = 5) : hsvF h s v = (v, hpF s v, hqF h s v) := by rw [hsvF_n e, h0]; rfl
theorem fmod6_no {i : Int} (h0 : i.fmod 6 ≠ 0) (h1 : i.fmod 6 ≠ 1) (h2 : i.fmod 6 ≠ 2) (h3 : i.fmod 6 ≠ 3) (h4 : i.fmod 6 ≠ 4) (h5 : i.fmod 6 ≠ 5) : False := by
  rw [Int.fmod_eq_emod_of_nonneg _ (by decide)] at h0 h1 h2 h3 h4 h5
  omega


noncomputable def divF (a b : Int) : UInt64 := Float64.ofFrac (decide (a < 0) != decide (b < 0)) a.natAbs b.natAbs
noncomputable abbrev f1 : UInt64 := 4607182418800017408
noncomputable def spotC (a b : Int) : UInt64 × UInt64 × UInt64 := hsvF (divF a b) f1 f1
noncomputable def spotH (a b : Int) : UInt64 × UInt64 × UInt64 := rgbF (spotC a b).1 (spotC a b).2.1 (spotC a b).2.2
noncomputable def spotX (a b : Int) : UInt64 := Float64.add (Float64.mul (spotH a b).1 (Float64.ofInt b)) 4602678819172646912
noncomputable def spotI (a b : Int) : Int := Flt.toInt Float64.truncOf (spotX a b)
structure SpotOk (a b : Int) : Prop where
  nz : b ≠ 0
  sm : b.natAbs < 18446744073709551616
  fin : Float64.isInf (divF a b) = false
  hsv : hsvOk (divF a b) = true
  rgb : rgbOk (spotC a b).1 (spotC a b).2.1 (spotC a b).2.2 = true
  nan : Float64.isNaN (spotX a b) = false
  inf : Float64.isInf (spotX a b) = false
  res : (spotI a b).fmod b = a.fmod b

noncomputable def IntOut (k : Int) (_ : List (Addr × Obj)) (v : Value) (tl : List (Addr × Obj)) : Prop := ∃ t, v = .int k t ∧ tl = []
theorem el_int {k : Int} {news : List (Addr × Obj)} {R : Value → Heap → Tok → Prop} {A1 : Heap → Prop} {A2 : List (Addr × Obj) → Heap → Prop} {A3 : List (Addr × Obj) → Prop}
    (h : ∀ t h' tk', A1 h' → A2 [] h' → A3 [] → R (.int k t) h' tk') : ∀ v tl h' tk', A1 h' → A2 tl h' → A3 tl → IntOut k news v tl → R v h' tk' := by
  rintro v tl h' tk' a1 a2 a3 ⟨t, rfl, rfl⟩
  (try ((with_reducible show wpAny _ _ _ _ _ _); k_fold)); (try (with_reducible refine any_tk ?_; intro _))
  exact h t h' tk' a1 a2 a3
theorem intOut {k : Int} {t : Tok} {news : List (Addr × Obj)} : IntOut k news (.int k t) [] := ⟨t, rfl, rfl⟩
theorem intOut' {k j : Int} {t : Tok} {news : List (Addr × Obj)} (h : j = k) : IntOut k news (.int j t) [] := by subst h; exact intOut
theorem ord0 {news : List (Addr × Obj)} : ∀ q ∈ news, ∀ p ∈ ([] : List (Addr × Obj)), q.1 < p.1 := fun _ _ _ h => nomatch h
theorem news_sub {h₀ h : Heap} {L : Addr} {l l' : List (Addr × Obj)} (N : News h₀ L h l) (hs : ∀ p ∈ l', p ∈ l) : News h₀ L h l' := fun p hp => N p (hs p hp)
theorem news_1 {h₀ h : Heap} {L : Addr} {a : Addr × Obj} {l : List (Addr × Obj)} (N : News h₀ L h (a :: l)) : News h₀ L h ([] ++ l) := fun p hp => N p (.tail _ hp)
theorem news_2 {h₀ h : Heap} {L : Addr} {a b : Addr × Obj} {l : List (Addr × Obj)} (N : News h₀ L h (a :: b :: l)) : News h₀ L h ([] ++ l) := fun p hp => N p (.tail _ (.tail _ hp))

theorem tf {b : Bool} (h : b = false) (h' : b = true) : False := by rw [h] at h'; cases h'
theorem big_no {n : Nat} (h : n < 18446744073709551616) (e : 2 ^ 1024 - 2 ^ 970 ≤ n) : False := Nat.lt_irrefl _ (Nat.lt_of_lt_of_le h (Nat.le_trans big_line e))

end Mine
end

section -- C2
open PySem PySem.W PyProof.Rows
set_option maxRecDepth 100000
set_option maxHeartbeats 8000000
namespace Mine
theorem off_C2 : True := by
  w_top off
  trivial
theorem hsv_con (w : World) (mean : ExcName → Option Value) (mg mb : Str → Option Value) (h s' v : UInt64) (th ts tv : Tok) (hok : hsvOk h = true) :
    Con w mean mg mb 28 [.float h th, .float s' ts, .float v tv] 1 NoPre (Tup3 (hsvF h s' v)) := by
  unfold Con
  intro dp un gd cn cs a ccd cl outer A₀ base h₀ L m news s Q E B F X N T hk hd hu hp hret
  refine wpAny_call ?_
  k_dflt cell_enter
  (try ((with_reducible show wpAny _ _ _ _ _ _); k_fold)); (try (with_reducible refine any_tk ?_; intro _)); (repeat' (first | (k_unfold; (try dsimp only)) | (k_end; wrow_close) | ((with_reducible show wpAny _ _ (execs (_ :: _) _) _ _ _); (with_reducible refine any_tk ?_); intro _) | walk1 | (dsimp only; walk1) | (leave1; walk_say "STEP leave1"; try dsimp only) | fail "no step"))
  all_goals first
    | exact hret _ [_] _ _ (by assumption) (by assumption) (ord1 (by assumption)) (tup3 (hsvF_z (by assumption)))
    | exact hret _ [_] _ _ (by assumption) (by assumption) (ord1 (by assumption)) (tup3 (hsvF_0 (by assumption) (by assumption)))
    | exact hret _ [_] _ _ (by assumption) (by assumption) (ord1 (by assumption)) (tup3 (hsvF_1 (by assumption) (by assumption)))
    | exact hret _ [_] _ _ (by assumption) (by assumption) (ord1 (by assumption)) (tup3 (hsvF_2 (by assumption) (by assumption)))
    | exact hret _ [_] _ _ (by assumption) (by assumption) (ord1 (by assumption)) (tup3 (hsvF_3 (by assumption) (by assumption)))
    | exact hret _ [_] _ _ (by assumption) (by assumption) (ord1 (by assumption)) (tup3 (hsvF_4 (by assumption) (by assumption)))
    | exact hret _ [_] _ _ (by assumption) (by assumption) (ord1 (by assumption)) (tup3 (hsvF_5 (by assumption) (by assumption)))
    | exact (hsvOk_nan hok (by assumption)).elim
    | exact (hsvOk_inf hok (by assumption)).elim
    | exact (hsvOk_big hok (by assumption)).elim
    | exact (fmod6_no (by assumption) (by assumption) (by assumption) (by assumption) (by assumption) (by assumption)).elim
end Mine
end

section -- D0
open PySem PySem.W PyProof.Rows PyProof.V PySem.Spec
set_option maxRecDepth 100000
namespace Mine
noncomputable abbrev KN := List (Int × Int)
noncomputable def encD (kn : KN) : List (PyData × PyData) := kn.map fun p => (PyData.int p.1, PyData.int p.2)
noncomputable def getI : KN → Int → Option Int
  | [], _ => none
  | (a, b) :: r, k => if a = k then some b else getI r k
noncomputable def putI (kn : KN) (k x : Int) : KN := if kn.any (fun p => decide (p.1 = k)) then kn.map (fun p => if p.1 = k then (p.1, x) else p) else kn ++ [(k, x)]
theorem encD_length (kn : KN) : (encD kn).length = kn.length := List.length_map ..
theorem lookup_enc (kn : KN) (k : Int) : lookup (.int k) (encD kn) = (getI kn k).map .int := by
  induction kn with
  | nil => rfl
  | cons p r ih =>
    obtain ⟨a, b⟩ := p
    show (if PySem.Spec.same (.int a) (.int k) then some (PyData.int b) else lookup (.int k) (encD r)) = _
    rw [PyProof.V.same_int, ih]
    show _ = (if a = k then some b else getI r k).map PyData.int
    by_cases h : a = k <;> simp [h]
theorem putD_enc (kn : KN) (k x : Int) : putD (.int k) (.int x) (encD kn) = encD (putI kn k x) := by
  have e1 : (encD kn).any (fun p => PySem.Spec.same p.1 (.int k)) = kn.any (fun p => decide (p.1 = k)) := by
    unfold encD; rw [List.any_map]; congr 1
  unfold putD putI
  rw [e1]
  by_cases h : kn.any (fun p => decide (p.1 = k)) = true
  · rw [if_pos h, if_pos h]
    unfold encD
    rw [List.map_map, List.map_map]
    refine List.map_congr_left fun p _ => ?_
    show (if PySem.Spec.same (.int p.1) (.int k) then (PyData.int p.1, PyData.int x) else (PyData.int p.1, PyData.int p.2)) = (fun p : Int × Int => (PyData.int p.1, PyData.int p.2)) (if p.1 = k then (p.1, x) else p)
    rw [PyProof.V.same_int]
    by_cases hk : p.1 = k <;> simp [hk]
  · rw [if_neg h, if_neg h]
    unfold encD
    rw [List.map_append]; rfl
theorem putI_length_le (kn : KN) (k x : Int) : (putI kn k x).length ≤ kn.length + 1 := by
  unfold putI; split
  · rw [List.length_map]; omega
  · rw [List.length_append]; simp

/-- the object o at d is a dict of ints to ints: kn -/
structure DAt (w : World) (d : Addr) (o : Obj) (kn : KN) : Prop where
  lo : (d == sysModules) = false
  ex : ∃ kvs : List (Int × Value), o.IsDictOf (intKind PR w) kvs ∧ FlatPairs PyData.int kvs (encD kn)

section
variable {w : World} {A : Around} {E : Value → Shared → Prop} {s : Shared} {h₀ h : Heap} {L d : Addr} {o : Obj} {m : Str → Option Value} {news : List (Addr × Obj)} {kn : KN}
theorem DAt.tab (D : DAt w d o kn) (ho : h.get? d = some o) : TabAt (intKind PR w) PyData.int h d (encD kn) := by
  obtain ⟨kvs, hd, hf⟩ := D.ex
  exact TabAt.ofObj D.lo ho hd hf
theorem d_in {i : Int} {t : Tok} {Q : Value → Shared → Prop} (N : News h₀ L s.heap news) (hm : (d, o) ∈ news) (D : DAt w d o kn)
    (h : Q (.bool (getI kn i).isSome) { s with toks := s.toks + 1 }) : wpAny (model PR w) A (compareOp .In (.int i t) (.ref d)) Q E s :=
  in_intTab (D.tab (N _ hm).1) (by rw [lookup_enc, Option.isSome_map]; exact h)
theorem d_item {i x : Int} {t : Tok} {Q : Value → Shared → Prop} (N : News h₀ L s.heap news) (hm : (d, o) ∈ news) (D : DAt w d o kn) (hg : getI kn i = some x)
    (h : ∀ t', Q (.int x t') { s with toks := s.toks + 1 }) : wpAny (model PR w) A (getItem (.ref d) (.int i t)) Q E s :=
  getItem_tab PyProof.V.same_int (intKind_is PR w i t) (D.tab (N _ hm).1) (by rw [lookup_enc, hg]; rfl) fun v hv => by
    obtain ⟨t', rfl⟩ := hv.int_inv
    exact h t'
theorem d_set {i x : Int} {t u : Tok} {rest : List (Addr × Obj)} {own : List (Addr × Obj)} {Q : Unit → Shared → Prop} (F : Fr h₀ L s.heap m) (N : News h₀ L s.heap (own ++ (d, o) :: rest)) (h1 : ∀ p ∈ own, p.1 ≠ d) (h2 : ∀ p ∈ rest, p.1 ≠ d) (D : DAt w d o kn)
    (hsz : kn.length ≤ 4096)
    (h : ∀ h' o', Fr h₀ L h' m → News h₀ L h' (own ++ (d, o') :: rest) → DAt w d o' (putI kn i x) → Q () { s with heap := h', toks := s.toks + 1 }) :
    wpAny (model PR w) A (setItem (.ref d) (.int i t) (.int x u)) Q E s := by
  obtain ⟨kvs, hd, hf⟩ := D.ex
  refine setItem_madeIn (hsz := by rw [encD_length]; exact Nat.le_trans hsz (by rw [sizeLine_eq]; decide)) PyProof.V.same_int (intKind_is PR w i t) (Flat.int x u) F N h1 h2 hd hf fun h' o' F' N' hd' hf' => h h' o' F' N' ⟨D.lo, _, hd', ?_⟩
  rw [← putD_enc]; exact hf'
theorem d_new {o : Obj} (lo : (d == sysModules) = false) (hd : o.IsDictOf (intKind PR w) []) : DAt w d o [] := ⟨lo, [], hd, .nil⟩
theorem d_one {o : Obj} {k x : Int} {t u : Tok} (lo : (d == sysModules) = false) (hd : o.IsDictOf (intKind PR w) (intKeyPairs [(.int k t, .int x u)])) : DAt w d o [(k, x)] :=
  ⟨lo, _, hd, .cons (Flat.int x u) .nil⟩
theorem d_made_one {k x : Int} {t u : Tok} {rest : List (Addr × Obj)} {Q : Value → Shared → Prop} (F : Fr h₀ L s.heap m) (N : News h₀ L s.heap ((d, o) :: rest)) (h2 : ∀ p ∈ rest, p.1 < d) (lo : (d == sysModules) = false) (hd : o.IsDictOf (intKind PR w) [])
    (h : ∀ h' o', Fr h₀ L h' m → News h₀ L h' ((d, o') :: rest) → DAt w d o' [(k, x)] → Q (.ref d) { s with heap := h', toks := s.toks + 1 }) : KdnMade PR w (intKind PR w) d Q [(.int k t, .int x u)] s := by
  have hm := N (d, o) (.head _)
  refine display_done_int rfl (by simp [intKeyPairs]) (Heap.dictOf_iff.mpr ⟨o, hm.1, hd⟩) fun h' hmm hs => ?_
  obtain ⟨o', ho', hd'⟩ := Heap.dictOf_iff.mp hmm
  exact h h' o' (F.change hs hm.2.1 hm.2.2) (News.setIn (own := []) N (fun _ h => nomatch h) (fun p hp => Nat.ne_of_lt (h2 p hp)) hs ho') (d_one lo hd')
end

/-- a fresh statistics tuple: three ints, a count, a dict -/
noncomputable def StatOut (w : World) (a b c n : Int) (kn : KN) (_ : List (Addr × Obj)) (v : Value) (tl : List (Addr × Obj)) : Prop :=
  ∃ D d o t1 t2 t3 t4, v = .ref D ∧ tl = [(D, tupO [.int a t1, .int b t2, .int c t3, .int n t4, .ref d]), (d, o)] ∧ DAt w d o kn
theorem statOut {w : World} {a b c n a' b' c' n' : Int} {kn kn' : KN} {D d : Addr} {o : Obj} {t1 t2 t3 t4 : Tok} {news : List (Addr × Obj)} (h : DAt w d o kn') (ha : a' = a) (hb : b' = b) (hc : c' = c) (hn : n' = n) (hk : kn' = kn) :
    StatOut w a b c n kn news (.ref D) [(D, tupO [.int a' t1, .int b' t2, .int c' t3, .int n' t4, .ref d]), (d, o)] := by
  subst ha hb hc hn hk
  exact ⟨D, d, o, t1, t2, t3, t4, rfl, rfl, h⟩
theorem ord2 {news : List (Addr × Obj)} {D d : Addr} {o o' : Obj} (h : ∀ p ∈ news, p.1 < d) (hd : d < D) : ∀ q ∈ news, ∀ p ∈ [(D, o), (d, o')], q.1 < p.1 := by
  intro q hq p hp
  rcases List.mem_cons.mp hp with rfl | hp
  · exact Nat.lt_trans (h q hq) hd
  · rw [List.mem_singleton.mp hp]; exact h q hq
theorem lt_tail {news : List (Addr × Obj)} {g : Addr × Obj} {d : Addr} (h : ∀ p ∈ g :: news, p.1 < d) : ∀ p ∈ news, p.1 < d := fun p hp => h p (.tail _ hp)
theorem news_skip3 {h₀ h : Heap} {L : Addr} {a b c : Addr × Obj} {l : List (Addr × Obj)} (N : News h₀ L h (a :: b :: c :: l)) : News h₀ L h ([a, b] ++ l) := fun p hp => by
  rcases List.mem_cons.mp hp with rfl | hp
  · exact N _ (.head _)
  · rcases List.mem_cons.mp hp with rfl | hp
    · exact N _ (.tail _ (.head _))
    · exact N p (.tail _ (.tail _ (.tail _ hp)))

structure EntryOk (paint a b c : Int) : Prop where
  over : ¬ Flt.Over paint
  hsv : hsvOk (Float64.div (Float64.ofInt paint) 4613937818241073152) = true
  n1 : Float64.isNaN (Float64.add (hsvF (Float64.div (Float64.ofInt paint) 4613937818241073152) f1 f1).1 4602678819172646912) = false
  i1 : Float64.isInf (Float64.add (hsvF (Float64.div (Float64.ofInt paint) 4613937818241073152) f1 f1).1 4602678819172646912) = false
  n2 : Float64.isNaN (Float64.add (hsvF (Float64.div (Float64.ofInt paint) 4613937818241073152) f1 f1).2.1 4602678819172646912) = false
  i2 : Float64.isInf (Float64.add (hsvF (Float64.div (Float64.ofInt paint) 4613937818241073152) f1 f1).2.1 4602678819172646912) = false
  n3 : Float64.isNaN (Float64.add (hsvF (Float64.div (Float64.ofInt paint) 4613937818241073152) f1 f1).2.2 4602678819172646912) = false
  i3 : Float64.isInf (Float64.add (hsvF (Float64.div (Float64.ofInt paint) 4613937818241073152) f1 f1).2.2 4602678819172646912) = false
  r1 : Flt.toInt Float64.truncOf (Float64.add (hsvF (Float64.div (Float64.ofInt paint) 4613937818241073152) f1 f1).1 4602678819172646912) = a
  r2 : Flt.toInt Float64.truncOf (Float64.add (hsvF (Float64.div (Float64.ofInt paint) 4613937818241073152) f1 f1).2.1 4602678819172646912) = b
  r3 : Flt.toInt Float64.truncOf (Float64.add (hsvF (Float64.div (Float64.ofInt paint) 4613937818241073152) f1 f1).2.2 4602678819172646912) = c

end Mine
end

section -- C4
open PySem PySem.W PyProof.Rows
set_option maxRecDepth 100000
set_option maxHeartbeats 8000000
namespace Mine
theorem off_C4 : True := by
  w_top off
  trivial
theorem entry_con (w : World) (mean : ExcName → Option Value) (mg mb : Str → Option Value) (spot paint : Int) (tt ts : Tok) (x y z : Int) (ok : EntryOk paint x y z) :
    Con w mean mg mb 91 [.int spot tt, .int paint ts] 2 NoPre (StatOut w x y z 1 [(spot, 1)]) := by
  have ok1 := ok.hsv
  unfold Con
  intro dp un gd cn cs a ccd cl outer A₀ base h₀ L m news s Q E B F X N T hk hd hu hp hret
  refine wpAny_call ?_
  k_dflt cell_enter
  (try ((with_reducible show wpAny _ _ _ _ _ _); k_fold)); (try (with_reducible refine any_tk ?_; intro _)); (repeat' (first | (k_unfold; (try dsimp only)) | (k_end; wrow_close) | ((with_reducible show wpAny _ _ (execs (_ :: _) _) _ _ _); (with_reducible refine any_tk ?_); intro _) | ((with_reducible show KdnMade _ _ _ _ _ _ _); k_dflt (k_here; k_dflt (refine' d_made_one ?F ?N ?l ?lo ?hd ?_; (case F => k_asm); (case N => k_asm); (case l => assumption); (case lo => assumption); (case hd => assumption)); intro _ _ _ _ _)) | ((with_reducible show wpAny _ _ (eval (PySem.Expr.Dict _ _ _) _) _ _ _); k_dflt (k_here; k_dflt (refine' kdn_eval (knd := PySem.intKind _ _) ?F ?N ?b ?a ?l ?e ?n ?_; (case F => k_asm); (case N => k_asm); (case b => exact Top.nolimit (by k_asm)); (case a => rfl); (case l => rfl); (case e => exact List.cons_ne_nil _ _); (case n => exact Nat.le_of_ble_eq_true rfl)); intro _ _ _ _ _ _ _ _)) | ((with_reducible show wpAny _ _ (call (Value.ref _) _) _ _ _); k_dflt ((with_reducible show wpAny _ _ (call (Value.ref 28) [Value.float _ _, Value.float _ _, Value.float _ _]) _ _ _); k_here; k_dflt (refine' Con.use ?k1 ?k2 ?k3 ?k4 ?k5 ?kK (hsv_con _ _ _ _ _ _ _ _ _ _ ?hok) ?kd ?ku ?kp ?_; (case k1 => k_asm); (case k2 => k_asm); (case k3 => k_asm); (case k4 => k_asm); (case k5 => k_asm); (case kK => first | exact rfl | assumption); (case kp => trivial); (case kd => ktr_room); (case ku => ktr_units); (case hok => assumption); k_whole); refine el_tup ?_; intro _ _ _ _ _ _ _ N9 _; (dsimp only [List.cons_append, List.nil_append] at N9); (try k_fold))) | walk1 | (dsimp only; walk1) | (leave1; walk_say "STEP leave1"; try dsimp only) | fail "no step"))
  all_goals first
    | exact hret _ [_, _] _ _ (by assumption) (news_skip3 (by assumption)) (ord2 (lt_tail (by assumption)) (And.left (by assumption))) (statOut (by assumption) ok.r1 ok.r2 ok.r3 rfl rfl)
    | exact (ok.over (by assumption)).elim
    | exact (tf ok.n1 (by assumption)).elim
    | exact (tf ok.i1 (by assumption)).elim
    | exact (tf ok.n2 (by assumption)).elim
    | exact (tf ok.i2 (by assumption)).elim
    | exact (tf ok.n3 (by assumption)).elim
    | exact (tf ok.i3 (by assumption)).elim
end Mine
end

section -- D1
open PySem PySem.W PyProof.Rows PyProof.V PySem.Spec
set_option maxRecDepth 100000
namespace Mine
section
variable {prog : Program} {w : World} {K : Type} [DecidableEq K] {knd : KeyKind prog w K} {A : Around} {s : Shared} {env : Env} {h₀ : Heap}

/-- a loop over a dict's items, by what holds between the turns: of the frame and of the ledger -/
theorem items_loop {R : Result → Shared → Prop} {xk xv : Str} {pk pv pt : Pos} {x1} {body : List Stmt} {it d : Addr} {kvs : List (K × Value)} {ep : Nat} {m : Str → Option Value} {news : List (Addr × Obj)}
    (hh : A.handled = none) (hxk : env.kindOf xk = some .local) (hxv : env.kindOf xv = some .local)
    (hp : (env.scope.kind == .class || (env.scope.kind == .module && env.locals != env.globals)) = false)
    (hiL : it ≠ env.locals) (hdL : d ≠ env.locals) (hdi : d ≠ it) (hin : h₀.get? it = none) (hnw : ∀ p ∈ news, p.1 ≠ it)
    (hit : IsItemIter s.heap it d 0 kvs.length ep .none .none) (hm : s.heap.DictAt knd d kvs ep) (F : Fr h₀ env.locals s.heap m) (N : News h₀ env.locals s.heap news)
    (J : Nat → (Str → Option Value) → List (Addr × Obj) → Prop) (h0 : J 0 m news)
    (step : ∀ i k v key m₁ news₁ s₁ own, (∃ h tk, s₁ = { s with heap := h, toks := tk }) → kvs[i]? = some (k, v) → knd.is k key = true → J i m₁ news₁ → (∀ p ∈ news₁, p.1 ≠ it) → (∀ p ∈ own, p.1 = it ∨ p.1 = d) → s₁.heap.DictAt knd d kvs ep →
      Fr h₀ env.locals s₁.heap (fun y => if y = xv then some v else if y = xk then some key else m₁ y) → News h₀ env.locals s₁.heap (own ++ news₁) →
      wpAny (model prog w) A (execs body env) (LoopStepU h₀ env.locals [it] own (J (i + 1)) s₁) (notedBy (model prog w) A env fun e s' => R (.error e) s') s₁)
    (hR : ∀ h' tk m' news', Fr h₀ env.locals h' m' → News h₀ env.locals h' news' → J kvs.length m' news' → R (.ok .next) { s with heap := h', toks := tk }) :
    codeAny (model prog w) A (.forLoop (.Tuple [.Name xk pk, .Name xv pv] x1 pt) (.ref it) body [] env) R s := by
  have hLf : env.locals ∉ [it, d] := by
    intro hx
    rcases List.mem_cons.mp hx with e | hx
    · exact hiL e.symm
    · exact hdL (List.mem_singleton.mp hx).symm
  refine codeAny_forLoop_any
    (fun n s' => ∃ h' tk m' news' i ok ov, s' = { s with heap := h', toks := tk } ∧ IsItemIter h' it d i kvs.length ep ok ov ∧ h'.DictAt knd d kvs ep ∧ Fr h₀ env.locals h' m' ∧ News h₀ env.locals h' news' ∧ (∀ p ∈ news', p.1 ≠ it) ∧ J i m' news' ∧ i ≤ kvs.length ∧
      n = kvs.length + 1 - i) ?_ (kvs.length + 1)
    ⟨s.heap, s.toks, m, news, 0, .none, .none, rfl, hit, hm, F, N, hnw, h0, Nat.zero_le _, rfl⟩
  intro n s' hI
  (show wpAny _ _ _ _ _ _; k_fold)
  obtain ⟨H, tk, m', news', i, ok, ov, hs0, hit', hm', F', N', hnw', hJ, hi, hn0⟩ := hI
  subst hs0 hn0
  have hn' := F'.ns
  have oldNe : ∀ b o, h₀.get? b = some o → b ≠ it := fun b o e q => by rw [q, hin] at e; cases e
  cases hv : kvs[i]? with
  | none =>
    have hsz : i = kvs.length := Nat.le_antisymm hi (by simpa using hv)
    refine wpAny_pyNext_items_end hh hit' hm' hv fun h₁ he₁ => wpAny_execs_nil ?_
    (try (show wpAny _ _ _ _ _ _; k_fold))
    exact hR h₁ tk m' news' ⟨hn'.extBut he₁ (Ne.symm hiL), fun b o e => he₁ b o (oldNe b o e) (F'.keep b o e), F'.above⟩
      (fun p hp => ⟨he₁ _ _ (hnw' p hp) (N' p hp).1, (N' p hp).2⟩) (hsz ▸ hJ)
  | some kv =>
    obtain ⟨k, v⟩ := kv
    have hlt : i < kvs.length := (List.getElem?_eq_some_iff.mp hv).1
    have hiH : it < H.objs.size := Heap.lt_size hit'
    have hLH : env.locals < H.objs.size := hn'.lt
    have hdH : d < H.objs.size := hm'.lt_size
    refine wpAny_pyNext_items_item hit' hm' hv fun key h₁ hkey heo ht₁ hz₁ hk₁ => ?_
    (try (show wpAny _ _ _ _ _ _; k_fold))
    refine wpAny_letOwnedTupleGo_items heo fun h₂ he₂ hs₂ => ?_
    (try (show wpAny _ _ _ _ _ _; k_fold))
    replace hs₂ : Heap.SameBut it h₁ h₂ := hs₂
    have ht₂ : h₂.IsTuple H.objs.size #[key, v] := ⟨_, (hs₂.2 _ (Nat.ne_of_gt hiH)).trans ht₁, rfl, _, rfl⟩
    have hz₂ : h₂.objs.size = H.objs.size + 1 := hs₂.1.trans hz₁
    refine wpAny_assign_Tuple hh ht₂ rfl rfl fun h₃ hx₃ => ?_
    (try (show wpAny _ _ _ _ _ _; k_fold))
    replace hx₃ : Heap.ExtBut h₂.objs.size h₂ h₃ := hx₃
    have old₃ : ∀ b o, b < H.objs.size → h₂.get? b = some o → h₃.get? b = some o := fun b o hb x => hx₃ b o (by rw [hz₂]; exact Nat.ne_of_lt (Nat.lt_succ_of_lt hb)) x
    have up₃ : ∀ b o, b ≠ it → H.get? b = some o → h₃.get? b = some o := fun b o hb x => old₃ b o (Heap.lt_size x) (hs₂.extBut b o hb (hk₁ b o hb x))
    have F₃ : Fr h₀ env.locals h₃ m' := ⟨hn'.at fun o x => up₃ _ o (Ne.symm hiL) x, fun b o e => up₃ b o (oldNe b o e) (F'.keep b o e), F'.above⟩
    have N₃ : News h₀ env.locals h₃ news' := fun p hp => ⟨up₃ _ _ (hnw' p hp) (N' p hp).1, (N' p hp).2⟩
    show wpAny _ _ (do holding [v] (assign (.Name xk pk) env key); do holding [] (assign (.Name xv pv) env v); pure ()) _ _ _
    refine wpAny_bind (wpAny_holding (wpAny_assign_Name (wpAny_storeName_local hxk F₃.ns (fun h₄ hn₄ hs₄ => ?_) hp)))
    replace hs₄ : Heap.SameBut env.locals h₃ h₄ := hs₄
    have F₄ := F₃.set hn₄ hs₄
    refine wpAny_bind (wpAny_holding (wpAny_assign_Name (wpAny_storeName_local hxv F₄.ns (fun h₅ hn₅ hs₅ => wpAny_pure ?_) hp)))
    replace hs₅ : Heap.SameBut env.locals h₄ h₅ := hs₅
    have F₅ := F₄.set hn₅ hs₅
    have N₅ : News h₀ env.locals h₅ news' := (N₃.set hs₄).set hs₅
    have up₅ : ∀ b o, b ≠ env.locals → b < H.objs.size → h₂.get? b = some o → h₅.get? b = some o := fun b o hbL hb x => hs₅.extBut b o hbL (hs₄.extBut b o hbL (old₃ b o hb x))
    have hm₂ : h₂.DictAt knd d kvs ep := (hm'.at fun o x => hk₁ d o hdi x).extBut hs₂.extBut hdi
    have hm₅ : h₅.DictAt knd d kvs ep := hm₂.at fun o x => up₅ d o hdL hdH x
    have hit₅ := up₅ it _ hiL hiH he₂
    have hown : ∀ p ∈ ownOf h₀ [it, d] h₅, p.1 = it ∨ p.1 = d := fun p hp => by
      have := ownOf_sub p hp
      simpa using this
    refine wpAny_mono (step i k v key m' news' _ (ownOf h₀ [it, d] h₅) ⟨_, _, rfl⟩ hv hkey hJ hnw' hown hm₅ F₅ ((news_ownOf hLf).append N₅)) (fun f s₃ h₆ => ?_) fun _ _ x => x
    obtain ⟨rfl, h₆, tk₆, m₂, news₂, rfl, F₆, N₆, hw₆, hJ₆⟩ := h₆
    have keep₆ : ∀ b ∈ [it, d], ∀ o, h₅.get? b = some o → h₆.get? b = some o := fun b hb o e => by
      cases hn : h₀.get? b with
      | some o₀ =>
        have : o₀ = o := by have q := F₅.keep b o₀ hn; rw [e] at q; exact (Option.some.inj q).symm
        exact this ▸ F₆.keep b o₀ hn
      | none => exact (N₆ _ (List.mem_append_left _ (mem_ownOf hb hn e))).1
    exact ⟨kvs.length + 1 - (i + 1), by omega, h₆, tk₆, m₂, news₂, i + 1, key, v, rfl, keep₆ it (by simp) _ hit₅, hm₅.at fun o x => keep₆ d (by simp) o x, F₆, N₆.right, fun p hp e => hw₆ p hp (by rw [e]; exact .head _), hJ₆, hlt, rfl⟩
end

theorem enc_at {kvs : List (Int × Value)} {kn : KN} (hf : FlatPairs PyData.int kvs (encD kn)) {i : Nat} {k : Int} {v : Value} (h : kvs[i]? = some (k, v)) : ∃ x t, v = .int x t ∧ kn[i]? = some (k, x) := by
  obtain ⟨dv, hd, hfl⟩ := hf.at h
  unfold encD at hd
  rw [List.getElem?_map] at hd
  cases hk : kn[i]? with
  | none => rw [hk] at hd; cases hd
  | some p =>
    rw [hk] at hd
    obtain ⟨a, b⟩ := p
    simp only [Option.map_some, Option.some.injEq, Prod.mk.injEq] at hd
    obtain ⟨e1, rfl⟩ := hd
    obtain ⟨t, rfl⟩ := hfl.int_inv
    injection e1 with e1
    subst e1
    exact ⟨b, t, rfl, rfl⟩

section
variable {w : World} {A : Around} {E : Value → Shared → Prop} {s : Shared} {env : Env} {h₀ : Heap} {m : Str → Option Value} {news : List (Addr × Obj)} {d vw : Addr} {o : Obj} {kn : KN} {xk xv : Str} {body : List Stmt} {Q : Flow → Shared → Prop}

/-- the whole loop, over the view vw that dict.items gave of the dict d -/
theorem d_items (hh : A.handled = none) (hxk : env.kindOf xk = some .local) (hxv : env.kindOf xv = some .local)
    (hp : (env.scope.kind == .class || (env.scope.kind == .module && env.locals != env.globals)) = false)
    (hvw : ∃ ov, s.heap.get? vw = some ov ∧ ov.cls = .type "dict_items" ∧ ov.data = .fields #[.ref d]) (F : Fr h₀ env.locals s.heap m) (N : News h₀ env.locals s.heap news)
    (hm : (d, o) ∈ news) (D : DAt w d o kn) (J : Nat → (Str → Option Value) → List (Addr × Obj) → Prop) (h0 : J 0 m news)
    (step : ∀ i k x tk tx it m₁ news₁ h t own, kn[i]? = some (k, x) → J i m₁ news₁ → (∀ p ∈ news₁, p.1 ≠ it) → (∀ p ∈ own, p.1 = it ∨ p.1 = d) →
      Fr h₀ env.locals h (fun y => if y = xv then some (.int x tx) else if y = xk then some (.int k tk) else m₁ y) → News h₀ env.locals h (own ++ news₁) →
      wpAny (model PR w) A (execs body env) (LoopStepU h₀ env.locals [it] own (J (i + 1)) { s with heap := h, toks := t }) E { s with heap := h, toks := t })
    (done : ∀ h' tk m' news', Fr h₀ env.locals h' m' → News h₀ env.locals h' news' → J kn.length m' news' → Q .next { s with heap := h', toks := tk })
    (hE : PassesOwn (model PR w) A env E := by passes_own) :
    wpAny (model PR w) A (pyIter (.ref vw)) (fun it s₂ => PairLoopAt PR w A h₀ env xk xv body Q E it s₂) E s := by
  obtain ⟨kvs, hdo, hf⟩ := D.ex
  obtain ⟨ep, hat⟩ := (Heap.dictOf_iff.mpr ⟨o, (N _ hm).1, hdo⟩ : s.heap.DictOf (intKind PR w) d kvs).dictAt
  have hlen : kvs.length = kn.length := by rw [← hf.length, encD_length]
  refine wpAny_pyIter_items (knd := intKind PR w) (d := d) (kvs := kvs) (ep := ep) hvw hat ?_
  intro pk pv pt x1
  have hne : d ≠ s.heap.objs.size := Nat.ne_of_lt hat.lt_size
  refine items_loop (knd := intKind PR w) (h₀ := h₀) (news := news) hh hxk hxv hp (Nat.ne_of_gt F.ns.lt) (N _ hm).2.1 hne (next_is_new F)
    (fun p hp => Nat.ne_of_lt (Heap.lt_size (N p hp).1)) (Heap.get?_push_size _ rfl) (hat.push _) (F.push _) (fun p hp => ⟨Heap.get?_push_of_some _ (N p hp).1, (N p hp).2⟩) J h0 ?_ ?_
  · rintro i k v key m₁ news₁ s₁ own ⟨h, t, rfl⟩ hx hkey hJ hnw hown _ F₁ N₁
    (try ((with_reducible show wpAny _ _ _ _ _ _); k_fold)); (try (with_reducible refine any_tk ?_; intro _))
    obtain ⟨x, tx, rfl, hkn⟩ := enc_at hf hx
    obtain ⟨tk, rfl⟩ := Value.isInt_shape hkey
    exact wpAny_passesOwn hE (step i k x tk tx _ m₁ news₁ h t own hkn hJ hnw hown F₁ N₁)
  · intro h' tk m' news' F' N' hJ
    exact done h' tk m' news' F' N' (hlen ▸ hJ)

theorem d_items_call {L : Addr} {Q : Value → Shared → Prop} (F : Fr h₀ L s.heap m) (N : News h₀ L s.heap news) (hm : (d, o) ∈ news) (D : DAt w d o kn)
    (h : ∀ vw h' o', (∃ ov, h'.get? vw = some ov ∧ ov.cls = .type "dict_items" ∧ ov.data = .fields #[.ref d]) → Fr h₀ L h' m → News h₀ L h' ((vw, o') :: news) → (∀ p ∈ news, p.1 < vw) → Q (.ref vw) { s with heap := h' }) :
    wpAny (model PR w) A (call (.builtin "dict.items") [.ref d]) Q E s :=
  call_items_tab (D.tab (N _ hm).1) F N fun h' o' hv F' N' => h _ h' o' hv F' N' fun p hp => Heap.lt_size (N p hp).1
theorem d_method {name : Str} {id : String} {L : Addr} {pl : Sem Bool} {Q : Value × List Value → Shared → Prop} (hid : dictMethodId name = some id) (N : News h₀ L s.heap news) (hm : (d, o) ∈ news) (D : DAt w d o kn) (h : Q (.builtin id, [.ref d]) s) :
    wpAny (model PR w) A (getMethod (.ref d) name pl) Q E s := getMethod_tab_any hid (D.tab (N _ hm).1) h
end

/-- between the turns of a loop for xk, xv over items that fills the one dict dn -/
noncomputable def JD (w : World) (xk xv : Str) (m0 : Str → Option Value) (base : List (Addr × Obj)) (dn : Addr) (f : Nat → KN) (i : Nat) (m' : Str → Option Value) (n' : List (Addr × Obj)) : Prop :=
  ∃ u1 u2 o, m' = (fun y => if y = xv then u2 else if y = xk then u1 else m0 y) ∧ n' = (dn, o) :: base ∧ DAt w dn o (f i)
theorem JD.start {w : World} {xk xv : Str} {m0 : Str → Option Value} {base : List (Addr × Obj)} {dn : Addr} {f : Nat → KN} {o : Obj} (D : DAt w dn o (f 0)) : JD w xk xv m0 base dn f 0 m0 ((dn, o) :: base) := by
  refine ⟨m0 xk, m0 xv, o, ?_, rfl, D⟩
  funext y
  by_cases h1 : y = xv
  · simp [h1]
  · by_cases h2 : y = xk
    · subst h2; simp only [if_neg h1, if_true]
    · simp only [if_neg h1, if_neg h2]
theorem JD.next {w : World} {xk xv : Str} {m0 : Str → Option Value} {base : List (Addr × Obj)} {dn : Addr} {f : Nat → KN} {i : Nat} {u1 u2 v1 v2 : Option Value} {o : Obj} (D : DAt w dn o (f i)) :
    JD w xk xv m0 base dn f i (fun y => if y = xv then v2 else if y = xk then v1 else if y = xv then u2 else if y = xk then u1 else m0 y) ((dn, o) :: base) := by
  refine ⟨v1, v2, o, ?_, rfl, D⟩
  funext y
  by_cases h1 : y = xv
  · simp [h1]
  · by_cases h2 : y = xk
    · simp [h1, h2]
    · simp [h1, h2]
noncomputable def putP (a : KN) (p : Int × Int) : KN := putI a p.1 p.2
noncomputable def addP (a : KN) (p : Int × Int) : KN := putI a p.1 (match getI a p.1 with | some y => y + p.2 | none => p.2)
noncomputable def addC (kt ks : KN) : KN := ks.foldl addP (kt.foldl putP [])
theorem foldl_at {α β : Type} (g : β → α → β) (b : β) (l : List α) {i : Nat} {a : α} (h : l[i]? = some a) : (l.take (i + 1)).foldl g b = g ((l.take i).foldl g b) a := by
  rw [List.take_add_one, h]; simp
theorem foldl_len (g : KN → Int × Int → KN) (hg : ∀ a p, (g a p).length ≤ a.length + 1) (l : KN) : ∀ b : KN, (l.foldl g b).length ≤ b.length + l.length := by
  induction l with
  | nil => intro b; simp
  | cons p r ih => intro b; have h1 := ih (g b p); have h2 := hg b p; simp only [List.foldl_cons, List.length_cons]; omega
theorem putP_len (a : KN) (p : Int × Int) : (putP a p).length ≤ a.length + 1 := putI_length_le ..
theorem addP_len (a : KN) (p : Int × Int) : (addP a p).length ≤ a.length + 1 := putI_length_le ..
noncomputable def DictOut (w : World) (kn : KN) (_ : List (Addr × Obj)) (v : Value) (tl : List (Addr × Obj)) : Prop := ∃ d o, v = .ref d ∧ tl = [(d, o)] ∧ DAt w d o kn
theorem el_dict {w : World} {kn : KN} {news : List (Addr × Obj)} {R : Value → Heap → Tok → Prop} {A1 : Heap → Prop} {A2 : List (Addr × Obj) → Heap → Prop} {A3 : List (Addr × Obj) → Prop}
    (h : ∀ d o h' tk', A1 h' → A2 [(d, o)] h' → A3 [(d, o)] → DAt w d o kn → R (.ref d) h' tk') : ∀ v tl h' tk', A1 h' → A2 tl h' → A3 tl → DictOut w kn news v tl → R v h' tk' := by
  rintro v tl h' tk' a1 a2 a3 ⟨d, o, rfl, rfl, D⟩
  (try ((with_reducible show wpAny _ _ _ _ _ _); k_fold)); (try (with_reducible refine any_tk ?_; intro _))
  exact h d o h' tk' a1 a2 a3 D
theorem for_pair {prog : Program} {w : World} {A : Around} {s : Shared} {env : Env} {h₀ : Heap} {L : Addr} {m : Str → Option Value} {E : Value → Shared → Prop} {Q : Flow → Shared → Prop} {xk xv : Str} {pk pv pt pos : Pos} {x1 : Nat} {iter : Expr} {body : List Stmt} (_ : Fr h₀ L s.heap m)
    (h : wpAny (model prog w) A (eval iter env) (fun xvl s₁ => wpAny (model prog w) A (pyIter xvl) (fun it s₂ => PairLoopAt prog w A h₀ env xk xv body Q E it s₂) E s₁) E s)
    (hs : ∀ x, foldedSetIterable iter env x = pure x := by intro _; rfl) :
    wpAny (model prog w) A (exec (.For (.Tuple [.Name xk pk, .Name xv pv] x1 pt) iter body [] pos) env) Q E s := For_pair_inv h₀ h hs
theorem news_drop {h₀ h : Heap} {L : Addr} {a : Addr × Obj} {l : List (Addr × Obj)} (N : News h₀ L h (a :: l)) : News h₀ L h l := fun p hp => N p (.tail _ hp)
theorem own_ne {own base : List (Addr × Obj)} {it d dn : Addr} {o : Obj} (hown : ∀ p ∈ own, p.1 = it ∨ p.1 = d) (hnw : ∀ p ∈ (dn, o) :: base, p.1 ≠ it) (hlt : d < dn) : ∀ p ∈ own, p.1 ≠ dn := by
  intro p hp e
  rcases hown p hp with h | h
  · exact hnw _ (.head _) (e.symm.trans h)
  · exact Nat.ne_of_lt hlt (h.symm.trans e)
theorem lt_ne {base : List (Addr × Obj)} {dn : Addr} (h : ∀ p ∈ base, p.1 < dn) : ∀ p ∈ base, p.1 ≠ dn := fun p hp => Nat.ne_of_lt (h p hp)
theorem jd_step {w : World} {g h2 : Heap} {L : Addr} {xk xv : Str} {m0 : Str → Option Value} {base own : List (Addr × Obj)} {dn it : Addr} {f : Nat → KN} {i : Nat} {u1 u2 v1 v2 : Option Value} {o o2 : Obj} {s₁ : Shared} {tk : Nat}
    (F : Fr g L h2 (fun y => if y = xv then v2 else if y = xk then v1 else if y = xv then u2 else if y = xk then u1 else m0 y)) (N : News g L h2 (own ++ (dn, o2) :: base)) (hnw : ∀ p ∈ (dn, o) :: base, p.1 ≠ it) (D2 : DAt w dn o2 (f (i + 1))) :
    LoopStepU g L [it] own (JD w xk xv m0 base dn f (i + 1)) s₁ .next { s₁ with heap := h2, toks := tk } :=
  LoopStepU.intro F N (fun p hp hm => by
    rw [List.mem_singleton] at hm
    rcases List.mem_cons.mp hp with rfl | hp
    · exact hnw (dn, o) (.head _) hm
    · exact hnw p (.tail _ hp) hm) (JD.next D2)
theorem jd_step' {w : World} {g h2 : Heap} {L : Addr} {xk xv : Str} {m0 : Str → Option Value} {base own : List (Addr × Obj)} {dn it : Addr} {f : Nat → KN} {i : Nat} {u1 u2 v1 v2 : Option Value} {o o2 : Obj} {s₁ : Shared} {tk : Nat} {y : KN}
    (F : Fr g L h2 (fun y => if y = xv then v2 else if y = xk then v1 else if y = xv then u2 else if y = xk then u1 else m0 y)) (N : News g L h2 (own ++ (dn, o2) :: base)) (hnw : ∀ p ∈ (dn, o) :: base, p.1 ≠ it) (D2 : DAt w dn o2 y) (e : f (i + 1) = y) :
    LoopStepU g L [it] own (JD w xk xv m0 base dn f (i + 1)) s₁ .next { s₁ with heap := h2, toks := tk } := jd_step F N hnw (e ▸ D2)
theorem take_len (g : KN → Int × Int → KN) (hg : ∀ a p, (g a p).length ≤ a.length + 1) (l : KN) (b : KN) (i : Nat) : ((l.take i).foldl g b).length ≤ b.length + l.length := by
  have h1 := foldl_len g hg (l.take i) b
  have h2 := List.length_take_le' i l
  omega
theorem putP_take_len {l : KN} (h : l.length ≤ 1000) (i : Nat) : ((l.take i).foldl putP []).length ≤ 4096 := by
  have h1 := take_len putP putP_len l [] i
  have h2 : ([] : KN).length = 0 := rfl
  omega
theorem addP_take_len {l kt : KN} (h : l.length ≤ 1000) (ht : kt.length ≤ 1000) (i : Nat) : ((l.take i).foldl addP (kt.foldl putP [])).length ≤ 4096 := by
  have h1 := take_len addP addP_len l (kt.foldl putP []) i
  have h2 := foldl_len putP putP_len kt []
  have h3 : ([] : KN).length = 0 := rfl
  omega
theorem addP_some {a : KN} {k x : Int} (h : (getI a k).isSome = true) : addP a (k, x) = putI a k ((getI a k).get h + x) := by
  unfold addP
  have e := Option.eq_some_of_isSome h
  generalize (getI a k).get h = y at e ⊢
  simp only [e]
theorem addP_none {a : KN} {k x : Int} (h : (getI a k).isSome = false) : addP a (k, x) = putI a k x := by
  unfold addP
  cases e : getI a k with
  | none => simp only [e]
  | some y => rw [e] at h; cases h
/-- a statistics tuple lies at t in the ledger -/
noncomputable def StatIn (w : World) (t : Addr) (a b c n : Int) (kn : KN) (news : List (Addr × Obj)) : Prop :=
  ∃ d o t1 t2 t3 t4, (t, tupO [.int a t1, .int b t2, .int c t3, .int n t4, .ref d]) ∈ news ∧ (d, o) ∈ news ∧ DAt w d o kn
theorem StatIn.mono {w : World} {t : Addr} {a b c n : Int} {kn : KN} {news news' : List (Addr × Obj)} (h : StatIn w t a b c n kn news) (hs : ∀ p ∈ news, p ∈ news') : StatIn w t a b c n kn news' :=
  let ⟨d, o, t1, t2, t3, t4, h1, h2, D⟩ := h
  ⟨d, o, t1, t2, t3, t4, hs _ h1, hs _ h2, D⟩
theorem StatOut.in {w : World} {a b c n : Int} {kn : KN} {news tl : List (Addr × Obj)} {v : Value} (h : StatOut w a b c n kn news v tl) : ∃ t, v = .ref t ∧ StatIn w t a b c n kn tl :=
  let ⟨D, d, o, t1, t2, t3, t4, hv, htl, hD⟩ := h
  ⟨D, hv, d, o, t1, t2, t3, t4, by rw [htl]; exact .head _, by rw [htl]; exact .tail _ (.head _), hD⟩
theorem ord_of1 {news : List (Addr × Obj)} {d : Addr} {o : Obj} (h : ∀ q ∈ news, ∀ p ∈ [(d, o)], q.1 < p.1) : ∀ q ∈ news, q.1 < d := fun q hq => h q hq _ (.head _)
structure ColOk (a b c n : Int) : Prop where
  nz : n ≠ 0
  f1 : Float64.isInf (divF a n) = false
  f2 : Float64.isInf (divF b n) = false
  f3 : Float64.isInf (divF c n) = false
  rgb : rgbOk (divF a n) (divF b n) (divF c n) = true
noncomputable def colF (a b c n : Int) : UInt64 × UInt64 × UInt64 := rgbF (divF a n) (divF b n) (divF c n)
end Mine
end

local macro_rules | `(tactic| k_mem) => `(tactic| first | with_reducible assumption | exact List.mem_cons_self | (refine List.mem_cons_of_mem _ ?_; k_mem) | (refine List.mem_append_left _ ?_; k_mem; done) | (refine List.mem_append_right _ ?_; k_mem))

section -- C5
open PySem PySem.W PyProof.Rows PyProof.V PySem.Spec
set_option maxRecDepth 100000
set_option maxHeartbeats 8000000
namespace Mine
theorem off_C5 : True := by
  w_top off
  trivial
theorem callers_con (w : World) (mean : ExcName → Option Value) (mg mb : Str → Option Value) (t sr : Addr) (ot os : Obj) (kt ks : KN) (Dt : DAt w t ot kt) (Ds : DAt w sr os ks) (ht : kt.length ≤ 1000) (hs : ks.length ≤ 1000) :
    Con w mean mg mb 49 [.ref t, .ref sr] 1 (fun news => (t, ot) ∈ news ∧ (sr, os) ∈ news) (DictOut w (addC kt ks)) := by
  unfold Con
  intro dp un gd cn cs a ccd cl outer A₀ base h₀ L m news s Q E B F X N T hk hd hu hp hret
  obtain ⟨hpt, hps⟩ := hp
  refine wpAny_call ?_
  k_dflt cell_enter
  (try ((with_reducible show wpAny _ _ _ _ _ _); k_fold)); (try (with_reducible refine any_tk ?_; intro _)); (repeat' (first | (k_unfold; (try dsimp only)) | (k_end; wrow_close) | ((with_reducible show wpAny _ _ (execs (_ :: _) _) _ _ _); (with_reducible refine any_tk ?_); intro _) | ((with_reducible show wpAny _ _ (getItem (Value.ref _) (Value.int _ _)) _ _ _); k_dflt (k_here; k_dflt (refine' d_item ?N ?hm ?D ?hg ?_; (case N => k_asm); (case D => assumption); (case hm => k_mem); (case hg => exact Option.eq_some_of_isSome (by assumption))); intro _)) | ((with_reducible show wpAny _ _ (compareOp PySem.CmpOp.In (Value.int _ _) (Value.ref _)) _ _ _); k_dflt (k_here; k_dflt (refine' d_in ?N ?hm ?D ?_; (case N => k_asm); (case D => assumption); (case hm => k_mem)))) | ((with_reducible show wpAny _ _ (setItem (Value.ref _) (Value.int _ _) _) _ _ _); k_dflt (k_here; (with_reducible show wpAny _ _ (setItem (Value.ref _) (Value.int _ _) (Value.int _ _)) _ _ _); k_dflt (refine' d_set ?F ?N ?h1 ?h2 ?D ?z ?_; (case F => k_asm); (case N => k_asm); (case h1 => assumption); (case h2 => assumption); (case D => assumption); (case z => assumption)); intro _ _ _ _ _)) | ((with_reducible show wpAny _ _ (call (Value.builtin "dict.items") _) _ _ _); k_dflt (k_here; k_dflt (refine' d_items_call ?F ?N ?m ?D ?_; (case F => k_asm); (case N => k_asm); (case D => assumption); (case m => k_mem)); intro _ _ _ _ _ _ _)) | ((with_reducible show wpAny _ _ (getMethod (Value.ref _) _ _) _ _ _); k_dflt (k_here; k_dflt (refine' d_method ?i ?N ?m ?D ?_; (case i => exact rfl); (case N => k_asm); (case D => assumption); (case m => k_mem)))) | ((with_reducible show wpAny _ _ (exec (PySem.Stmt.For (PySem.Expr.Tuple _ _ _) (PySem.Expr.Call _ _ _ _) _ _ _) _) _ _ _); k_dflt (k_here; (with_reducible show wpAny _ _ (exec (Stmt.For (Expr.Tuple [Expr.Name _ _, Expr.Name _ _] _ _) (Expr.Call (Expr.Attribute _ _ _) _ _ _) _ _ _) _) _ _ _); (rename Fr _ _ _ _ => F9); k_dflt (refine for_pair F9 ?_))) | walk1 | (dsimp only; walk1) | (leave1; walk_say "STEP leave1"; try dsimp only) | fail "no step"))
  (rename Fr _ _ _ _ => F1)
  (rename News _ _ _ _ => N1)
  have N2 := news_drop N1
  clear N1
  have D0 : DAt w _ _ [] := d_new (by assumption) (by assumption)
  k_dflt (refine' d_items (J := JD w (Str.ofString "func") (Str.ofString "caller") _ _ _ (fun i => (kt.take i).foldl putP [])) ?qhh ?qxk ?qxv ?qp ?qvw F1 N2 ?qhm Dt (JD.start D0) ?qstep ?qdone ?qE)
  (case qhh => exact rfl)
  (case qxk => exact rfl)
  (case qxv => exact rfl)
  (case qp => exact rfl)
  (case qvw => assumption)
  (case qhm => exact List.mem_cons_of_mem _ hpt)
  (case qE => k_dflt passes_own)
  · rintro i k x tk tx it m₁ news₁ h9 t9 own hi ⟨u1, u2, o1, rfl, rfl, hD1⟩ hnw hown F3 N3
    (try ((with_reducible show wpAny _ _ _ _ _ _); k_fold)); (try (with_reducible refine any_tk ?_; intro _))
    (rename (∀ p ∈ news, p.1 < _) => l1)
    have hne := own_ne hown hnw (l1 _ hpt)
    have hne2 := lt_ne l1
    have hsz : ((kt.take i).foldl putP []).length ≤ 4096 := putP_take_len ht i
    (try ((with_reducible show wpAny _ _ _ _ _ _); k_fold)); (try (with_reducible refine any_tk ?_; intro _)); (repeat' (first | (k_unfold; (try dsimp only)) | (k_end; wrow_close) | ((with_reducible show wpAny _ _ (execs (_ :: _) _) _ _ _); (with_reducible refine any_tk ?_); intro _) | ((with_reducible show wpAny _ _ (getItem (Value.ref _) (Value.int _ _)) _ _ _); k_dflt (k_here; k_dflt (refine' d_item ?N ?hm ?D ?hg ?_; (case N => k_asm); (case D => assumption); (case hm => k_mem); (case hg => exact Option.eq_some_of_isSome (by assumption))); intro _)) | ((with_reducible show wpAny _ _ (compareOp PySem.CmpOp.In (Value.int _ _) (Value.ref _)) _ _ _); k_dflt (k_here; k_dflt (refine' d_in ?N ?hm ?D ?_; (case N => k_asm); (case D => assumption); (case hm => k_mem)))) | ((with_reducible show wpAny _ _ (setItem (Value.ref _) (Value.int _ _) _) _ _ _); k_dflt (k_here; (with_reducible show wpAny _ _ (setItem (Value.ref _) (Value.int _ _) (Value.int _ _)) _ _ _); k_dflt (refine' d_set ?F ?N ?h1 ?h2 ?D ?z ?_; (case F => k_asm); (case N => k_asm); (case h1 => assumption); (case h2 => assumption); (case D => assumption); (case z => assumption)); intro _ _ _ _ _)) | ((with_reducible show wpAny _ _ (call (Value.builtin "dict.items") _) _ _ _); k_dflt (k_here; k_dflt (refine' d_items_call ?F ?N ?m ?D ?_; (case F => k_asm); (case N => k_asm); (case D => assumption); (case m => k_mem)); intro _ _ _ _ _ _ _)) | ((with_reducible show wpAny _ _ (getMethod (Value.ref _) _ _) _ _ _); k_dflt (k_here; k_dflt (refine' d_method ?i ?N ?m ?D ?_; (case i => exact rfl); (case N => k_asm); (case D => assumption); (case m => k_mem)))) | ((with_reducible show wpAny _ _ (exec (PySem.Stmt.For (PySem.Expr.Tuple _ _ _) (PySem.Expr.Call _ _ _ _) _ _ _) _) _ _ _); k_dflt (k_here; (with_reducible show wpAny _ _ (exec (Stmt.For (Expr.Tuple [Expr.Name _ _, Expr.Name _ _] _ _) (Expr.Call (Expr.Attribute _ _ _) _ _ _) _ _ _) _) _ _ _); (rename Fr _ _ _ _ => F9); k_dflt (refine for_pair F9 ?_))) | walk1 | (dsimp only; walk1) | (leave1; walk_say "STEP leave1"; try dsimp only) | fail "no step"))
    exact jd_step' (by assumption) (by assumption) hnw (by assumption) (foldl_at putP [] kt hi)
  · rintro h9 t9 m' n' F3 N3 ⟨u1, u2, o1, rfl, rfl, hD1⟩
    (try ((with_reducible show wpAny _ _ _ _ _ _); k_fold)); (try (with_reducible refine any_tk ?_; intro _))
    dsimp only at hD1
    rw [List.take_length] at hD1
    clear F1 N2
    (try ((with_reducible show wpAny _ _ _ _ _ _); k_fold)); (try (with_reducible refine any_tk ?_; intro _)); (repeat' (first | (k_unfold; (try dsimp only)) | (k_end; wrow_close) | ((with_reducible show wpAny _ _ (execs (_ :: _) _) _ _ _); (with_reducible refine any_tk ?_); intro _) | ((with_reducible show wpAny _ _ (getItem (Value.ref _) (Value.int _ _)) _ _ _); k_dflt (k_here; k_dflt (refine' d_item ?N ?hm ?D ?hg ?_; (case N => k_asm); (case D => assumption); (case hm => k_mem); (case hg => exact Option.eq_some_of_isSome (by assumption))); intro _)) | ((with_reducible show wpAny _ _ (compareOp PySem.CmpOp.In (Value.int _ _) (Value.ref _)) _ _ _); k_dflt (k_here; k_dflt (refine' d_in ?N ?hm ?D ?_; (case N => k_asm); (case D => assumption); (case hm => k_mem)))) | ((with_reducible show wpAny _ _ (setItem (Value.ref _) (Value.int _ _) _) _ _ _); k_dflt (k_here; (with_reducible show wpAny _ _ (setItem (Value.ref _) (Value.int _ _) (Value.int _ _)) _ _ _); k_dflt (refine' d_set ?F ?N ?h1 ?h2 ?D ?z ?_; (case F => k_asm); (case N => k_asm); (case h1 => assumption); (case h2 => assumption); (case D => assumption); (case z => assumption)); intro _ _ _ _ _)) | ((with_reducible show wpAny _ _ (call (Value.builtin "dict.items") _) _ _ _); k_dflt (k_here; k_dflt (refine' d_items_call ?F ?N ?m ?D ?_; (case F => k_asm); (case N => k_asm); (case D => assumption); (case m => k_mem)); intro _ _ _ _ _ _ _)) | ((with_reducible show wpAny _ _ (getMethod (Value.ref _) _ _) _ _ _); k_dflt (k_here; k_dflt (refine' d_method ?i ?N ?m ?D ?_; (case i => exact rfl); (case N => k_asm); (case D => assumption); (case m => k_mem)))) | ((with_reducible show wpAny _ _ (exec (PySem.Stmt.For (PySem.Expr.Tuple _ _ _) (PySem.Expr.Call _ _ _ _) _ _ _) _) _ _ _); k_dflt (k_here; (with_reducible show wpAny _ _ (exec (Stmt.For (Expr.Tuple [Expr.Name _ _, Expr.Name _ _] _ _) (Expr.Call (Expr.Attribute _ _ _) _ _ _) _ _ _) _) _ _ _); (rename Fr _ _ _ _ => F9); k_dflt (refine for_pair F9 ?_))) | walk1 | (dsimp only; walk1) | (leave1; walk_say "STEP leave1"; try dsimp only) | fail "no step"))
    (rename Fr _ _ _ _ => F1)
    (rename News _ _ _ _ => N1)
    have N2 := news_drop N1
    clear N1
    k_dflt (refine' d_items (J := JD w (Str.ofString "func") (Str.ofString "caller") _ _ _ (fun i => (ks.take i).foldl addP (kt.foldl putP []))) ?rqhh ?rqxk ?rqxv ?rqp ?rqvw F1 N2 ?rqhm Ds (JD.start hD1) ?rqstep ?rqdone ?rqE)
    (case rqhh => exact rfl)
    (case rqxk => exact rfl)
    (case rqxv => exact rfl)
    (case rqp => exact rfl)
    (case rqvw => assumption)
    (case rqhm => exact List.mem_cons_of_mem _ hps)
    (case rqE => k_dflt passes_own)
    · rintro i k x tk tx it m₁ news₁ h9 t9 own hi ⟨u1, u2, o1, rfl, rfl, hD1⟩ hnw hown F3 N3
      (try ((with_reducible show wpAny _ _ _ _ _ _); k_fold)); (try (with_reducible refine any_tk ?_; intro _))
      (rename (∀ p ∈ news, p.1 < _) => l1)
      have hne := own_ne hown hnw (l1 _ hps)
      have hne2 := lt_ne l1
      have hsz : ((ks.take i).foldl addP (kt.foldl putP [])).length ≤ 4096 := addP_take_len hs ht i
      (try ((with_reducible show wpAny _ _ _ _ _ _); k_fold)); (try (with_reducible refine any_tk ?_; intro _)); (repeat' (first | (k_unfold; (try dsimp only)) | (k_end; wrow_close) | ((with_reducible show wpAny _ _ (execs (_ :: _) _) _ _ _); (with_reducible refine any_tk ?_); intro _) | ((with_reducible show wpAny _ _ (getItem (Value.ref _) (Value.int _ _)) _ _ _); k_dflt (k_here; k_dflt (refine' d_item ?N ?hm ?D ?hg ?_; (case N => k_asm); (case D => assumption); (case hm => k_mem); (case hg => exact Option.eq_some_of_isSome (by assumption))); intro _)) | ((with_reducible show wpAny _ _ (compareOp PySem.CmpOp.In (Value.int _ _) (Value.ref _)) _ _ _); k_dflt (k_here; k_dflt (refine' d_in ?N ?hm ?D ?_; (case N => k_asm); (case D => assumption); (case hm => k_mem)))) | ((with_reducible show wpAny _ _ (setItem (Value.ref _) (Value.int _ _) _) _ _ _); k_dflt (k_here; (with_reducible show wpAny _ _ (setItem (Value.ref _) (Value.int _ _) (Value.int _ _)) _ _ _); k_dflt (refine' d_set ?F ?N ?h1 ?h2 ?D ?z ?_; (case F => k_asm); (case N => k_asm); (case h1 => assumption); (case h2 => assumption); (case D => assumption); (case z => assumption)); intro _ _ _ _ _)) | ((with_reducible show wpAny _ _ (call (Value.builtin "dict.items") _) _ _ _); k_dflt (k_here; k_dflt (refine' d_items_call ?F ?N ?m ?D ?_; (case F => k_asm); (case N => k_asm); (case D => assumption); (case m => k_mem)); intro _ _ _ _ _ _ _)) | ((with_reducible show wpAny _ _ (getMethod (Value.ref _) _ _) _ _ _); k_dflt (k_here; k_dflt (refine' d_method ?i ?N ?m ?D ?_; (case i => exact rfl); (case N => k_asm); (case D => assumption); (case m => k_mem)))) | ((with_reducible show wpAny _ _ (exec (PySem.Stmt.For (PySem.Expr.Tuple _ _ _) (PySem.Expr.Call _ _ _ _) _ _ _) _) _ _ _); k_dflt (k_here; (with_reducible show wpAny _ _ (exec (Stmt.For (Expr.Tuple [Expr.Name _ _, Expr.Name _ _] _ _) (Expr.Call (Expr.Attribute _ _ _) _ _ _) _ _ _) _) _ _ _); (rename Fr _ _ _ _ => F9); k_dflt (refine for_pair F9 ?_))) | walk1 | (dsimp only; walk1) | (leave1; walk_say "STEP leave1"; try dsimp only) | fail "no step"))
      · exact jd_step' (by assumption) (by assumption) hnw (by assumption) ((foldl_at addP (kt.foldl putP []) ks hi).trans (addP_some _))
      · exact jd_step' (by assumption) (by assumption) hnw (by assumption) ((foldl_at addP (kt.foldl putP []) ks hi).trans (addP_none (by assumption)))
    · rintro h9 t9 m' n' F3 N3 ⟨u1, u2, o1, rfl, rfl, hD1⟩
      (try ((with_reducible show wpAny _ _ _ _ _ _); k_fold)); (try (with_reducible refine any_tk ?_; intro _))
      dsimp only at hD1
      rw [List.take_length] at hD1
      clear F1 N2
      (try ((with_reducible show wpAny _ _ _ _ _ _); k_fold)); (try (with_reducible refine any_tk ?_; intro _)); (repeat' (first | (k_unfold; (try dsimp only)) | (k_end; wrow_close) | ((with_reducible show wpAny _ _ (execs (_ :: _) _) _ _ _); (with_reducible refine any_tk ?_); intro _) | ((with_reducible show wpAny _ _ (getItem (Value.ref _) (Value.int _ _)) _ _ _); k_dflt (k_here; k_dflt (refine' d_item ?N ?hm ?D ?hg ?_; (case N => k_asm); (case D => assumption); (case hm => k_mem); (case hg => exact Option.eq_some_of_isSome (by assumption))); intro _)) | ((with_reducible show wpAny _ _ (compareOp PySem.CmpOp.In (Value.int _ _) (Value.ref _)) _ _ _); k_dflt (k_here; k_dflt (refine' d_in ?N ?hm ?D ?_; (case N => k_asm); (case D => assumption); (case hm => k_mem)))) | ((with_reducible show wpAny _ _ (setItem (Value.ref _) (Value.int _ _) _) _ _ _); k_dflt (k_here; (with_reducible show wpAny _ _ (setItem (Value.ref _) (Value.int _ _) (Value.int _ _)) _ _ _); k_dflt (refine' d_set ?F ?N ?h1 ?h2 ?D ?z ?_; (case F => k_asm); (case N => k_asm); (case h1 => assumption); (case h2 => assumption); (case D => assumption); (case z => assumption)); intro _ _ _ _ _)) | ((with_reducible show wpAny _ _ (call (Value.builtin "dict.items") _) _ _ _); k_dflt (k_here; k_dflt (refine' d_items_call ?F ?N ?m ?D ?_; (case F => k_asm); (case N => k_asm); (case D => assumption); (case m => k_mem)); intro _ _ _ _ _ _ _)) | ((with_reducible show wpAny _ _ (getMethod (Value.ref _) _ _) _ _ _); k_dflt (k_here; k_dflt (refine' d_method ?i ?N ?m ?D ?_; (case i => exact rfl); (case N => k_asm); (case D => assumption); (case m => k_mem)))) | ((with_reducible show wpAny _ _ (exec (PySem.Stmt.For (PySem.Expr.Tuple _ _ _) (PySem.Expr.Call _ _ _ _) _ _ _) _) _ _ _); k_dflt (k_here; (with_reducible show wpAny _ _ (exec (Stmt.For (Expr.Tuple [Expr.Name _ _, Expr.Name _ _] _ _) (Expr.Call (Expr.Attribute _ _ _) _ _ _) _ _ _) _) _ _ _); (rename Fr _ _ _ _ => F9); k_dflt (refine for_pair F9 ?_))) | walk1 | (dsimp only; walk1) | (leave1; walk_say "STEP leave1"; try dsimp only) | fail "no step"))
      exact hret _ [_] _ _ (by assumption) (by assumption) (ord1 (by assumption)) ⟨_, _, rfl, rfl, hD1⟩
end Mine
end

section -- C6
open PySem PySem.W PyProof.Rows PyProof.V PySem.Spec
set_option maxRecDepth 100000
set_option maxHeartbeats 8000000
namespace Mine
theorem off_C6 : True := by
  w_top off
  trivial
theorem stats_con (w : World) (mean : ExcName → Option Value) (mg mb : Str → Option Value) (t sr : Addr) (a1 b1 c1 n1 a2 b2 c2 n2 : Int) (kt ks : KN) (ht : kt.length ≤ 1000) (hs : ks.length ≤ 1000) :
    Con w mean mg mb 42 [.ref t, .ref sr] 2 (fun news => StatIn w t a1 b1 c1 n1 kt news ∧ StatIn w sr a2 b2 c2 n2 ks news) (StatOut w (a2 + a1) (b2 + b1) (c2 + c1) (n2 + n1) (addC kt ks)) := by
  unfold Con
  intro dp un gd cn cs a ccd cl outer A₀ base h₀ L m news s Q E B F X N T hk hd hu hp hret
  obtain ⟨⟨d1, o1, u1, u2, u3, u4, hm1, hd1, D1⟩, ⟨d2, o2, w1, w2, w3, w4, hm2, hd2, D2⟩⟩ := hp
  refine wpAny_call ?_
  k_dflt cell_enter
  (try ((with_reducible show wpAny _ _ _ _ _ _); k_fold)); (try (with_reducible refine any_tk ?_; intro _)); (repeat' (first | (k_unfold; (try dsimp only)) | (k_end; wrow_close) | ((with_reducible show wpAny _ _ (execs (_ :: _) _) _ _ _); (with_reducible refine any_tk ?_); intro _) | ((with_reducible show wpAny _ _ (call (Value.ref _) _) _ _ _); k_dflt ((with_reducible show wpAny _ _ (call (Value.ref 49) [Value.ref _, Value.ref _]) _ _ _); k_here; k_dflt (refine' Con.use ?k1 ?k2 ?k3 ?k4 ?k5 ?kK (callers_con _ _ _ _ _ _ _ _ _ _ ?q1 ?q2 ?q3 ?q4) ?kd ?ku ?kp ?_; (case k1 => k_asm); (case k2 => k_asm); (case k3 => k_asm); (case k4 => k_asm); (case k5 => k_asm); (case kK => first | exact rfl | assumption); (case q1 => assumption); (case q2 => assumption); (case q3 => assumption); (case q4 => assumption); (case kp => exact And.intro (by k_mem) (by k_mem)); (case kd => ktr_room); (case ku => ktr_units); k_whole); refine el_dict ?_; intro _ _ _ _ _ N9 _ _; (dsimp only [List.cons_append, List.nil_append] at N9); (try k_fold))) | walk1 | (dsimp only; walk1) | (leave1; walk_say "STEP leave1"; try dsimp only) | fail "no step"))
  exact hret _ [_, _] _ _ (by assumption) (by assumption) (ord2 (ord_of1 (by assumption)) (And.left (by assumption))) (statOut (by assumption) rfl rfl rfl rfl rfl)
end Mine
end

section -- D2
open PySem PySem.W PyProof.Rows PyProof.V PySem.Spec
set_option maxRecDepth 100000
namespace Mine
section
variable {prog : Program} {w : World} {A : Around} {E : Value → Shared → Prop} {s : Shared} {env : Env} {h₀ : Heap} {m : Str → Option Value} {news : List (Addr × Obj)} {x : Str} {body : List Stmt} {Q : Flow → Shared → Prop}
theorem for_name {L : Addr} {px pos : Pos} {iter : Expr} (_ : Fr h₀ L s.heap m) (hx : env.kindOf x = some .local)
    (hp : (env.scope.kind == .class || (env.scope.kind == .module && env.locals != env.globals)) = false)
    (h : wpAny (model prog w) A (eval iter env) (fun xv s₁ => wpAny (model prog w) A (pyIter xv) (fun it s₂ => LoopAtV prog w A h₀ env x body Q E it s₂) E s₁) E s)
    (hs : ∀ x, foldedSetIterable iter env x = pure x := by intro _; rfl)
    (hE : PassesOwn (model prog w) A env E := by passes_own) :
    wpAny (model prog w) A (exec (.For (.Name x px) iter body [] pos) env) Q E s := For_invV h₀ hx hp h hs hE

/-- any iterator that walks, from a fresh heap cell I, over n items: the loop by J -/
theorem loop_at {I : Addr} {fp wr : List Addr} {n : Nat} {P : Nat → Value → Prop} {St : Nat → Heap → Prop} (W : Walks prog w A I fp wr n P St) (hLf : env.locals ∉ fp) (hwr : ∀ b ∈ wr, h₀.get? b = none) (hnw : ∀ p ∈ news, p.1 ∉ wr)
    (hst : St 0 s.heap) (F : Fr h₀ env.locals s.heap m) (N : News h₀ env.locals s.heap news) (J : Nat → (Str → Option Value) → List (Addr × Obj) → Prop) (h0 : J 0 m news)
    (step : ∀ i v m₁ news₁ h t own, i < n → P i v → J i m₁ news₁ → (∀ p ∈ news₁, p.1 ∉ wr) → (∀ p ∈ own, p.1 ∈ fp) → (∀ b ∈ fp, h₀.get? b = none → ∀ o, h.get? b = some o → (b, o) ∈ own) → St (i + 1) h →
      Fr h₀ env.locals h (fun y => if y = x then some v else m₁ y) → News h₀ env.locals h (own ++ news₁) →
      wpAny (model prog w) A (execs body env) (LoopStepV h₀ env.locals wr own (J (i + 1)) { s with heap := h, toks := t } (fun v s' => Q (.ret v) s') fun s' => Q .next s') E { s with heap := h, toks := t })
    (done : ∀ h' tk m' news', Fr h₀ env.locals h' m' → News h₀ env.locals h' news' → J n m' news' → Q .next { s with heap := h', toks := tk }) :
    LoopAtV prog w A h₀ env x body Q E (.ref I) s :=
  ⟨I, fp, wr, n, P, St, m, news, J, rfl, W, hLf, hwr, hnw, hst, F, N, h0, fun i v m₁ news₁ s₁ own ⟨h, t, e⟩ hi hP hJ a b _ c d F₁ N₁ => by subst e; exact step i v m₁ news₁ h t own hi hP hJ a b c d F₁ N₁,
    fun h' tk m' news' F' N' _ hJ => done h' tk m' news' F' N' hJ⟩
end
section
variable {w : World} {A : Around} {E : Value → Shared → Prop} {s : Shared} {env : Env} {h₀ : Heap} {m : Str → Option Value} {news : List (Addr × Obj)} {d vw : Addr} {o : Obj} {kn : KN} {x : Str} {body : List Stmt} {Q : Flow → Shared → Prop}
theorem d_values_call {L : Addr} {Q : Value → Shared → Prop} (F : Fr h₀ L s.heap m) (N : News h₀ L s.heap news) (hm : (d, o) ∈ news) (D : DAt w d o kn)
    (h : ∀ vw h' o', h'.IsValuesView vw d → Fr h₀ L h' m → News h₀ L h' ((vw, o') :: news) → (∀ p ∈ news, p.1 < vw) → Q (.ref vw) { s with heap := h' }) :
    wpAny (model PR w) A (call (.builtin "dict.values") [.ref d]) Q E s :=
  call_values_tab (D.tab (N _ hm).1) F N fun h' o' hv F' N' => h _ h' o' hv F' N' fun p hp => Heap.lt_size (N p hp).1
theorem d_values (hh : A.handled = none) (hvw : s.heap.IsValuesView vw d) (F : Fr h₀ env.locals s.heap m) (N : News h₀ env.locals s.heap news) (hm : (d, o) ∈ news) (D : DAt w d o kn)
    (J : Nat → (Str → Option Value) → List (Addr × Obj) → Prop) (h0 : J 0 m news)
    (step : ∀ i k y ty it m₁ news₁ h t own, kn[i]? = some (k, y) → J i m₁ news₁ → (∀ p ∈ news₁, p.1 ∉ [it]) → (∀ p ∈ own, p.1 = it ∨ p.1 = d) →
      Fr h₀ env.locals h (fun z => if z = x then some (.int y ty) else m₁ z) → News h₀ env.locals h (own ++ news₁) →
      wpAny (model PR w) A (execs body env) (LoopStepV h₀ env.locals [it] own (J (i + 1)) { s with heap := h, toks := t } (fun v s' => Q (.ret v) s') fun s' => Q .next s') E { s with heap := h, toks := t })
    (done : ∀ h' tk m' news', Fr h₀ env.locals h' m' → News h₀ env.locals h' news' → J kn.length m' news' → Q .next { s with heap := h', toks := tk }) :
    wpAny (model PR w) A (pyIter (.ref vw)) (fun it s₂ => LoopAtV PR w A h₀ env x body Q E it s₂) E s := by
  obtain ⟨kvs, hdo, hf⟩ := D.ex
  obtain ⟨ep, hat⟩ := (Heap.dictOf_iff.mpr ⟨o, (N _ hm).1, hdo⟩ : s.heap.DictOf (intKind PR w) d kvs).dictAt
  have hlen : kvs.length = kn.length := by rw [← hf.length, encD_length]
  refine wpAny_pyIter_values (knd := intKind PR w) (kvs := kvs) (ep := ep) hvw hat ?_
  have hne : d ≠ s.heap.objs.size := Nat.ne_of_lt hat.lt_size
  have hpush : ∀ b o', s.heap.get? b = some o' → (s.heap.push { cls := .type "dict_valueiterator", data := .fields #[.ref d, .int 0 0, .int kvs.length 0, .int ep 0] }).get? b = some o' := fun b o' e => Heap.get?_push_of_some _ e
  refine loop_at (news := news) (m := m) (Walks.dictValues (knd := intKind PR w) hh s.heap.objs.size d hne kvs ep) ?_ ?_ ?_ ⟨⟨_, Heap.get?_push_size _ rfl, rfl, rfl⟩, hat.push _⟩ (F.push _) (fun p hp => ⟨hpush _ _ (N p hp).1, (N p hp).2⟩) J h0 ?_ ?_
  · intro hm'
    rcases List.mem_cons.mp hm' with e | hm'
    · exact absurd F.ns.lt (e ▸ Nat.lt_irrefl _)
    · exact (N _ hm).2.1 (List.mem_singleton.mp hm').symm
  · intro b hb
    rw [List.mem_singleton.mp hb]
    exact next_is_new F
  · intro p hp hI
    exact absurd (Heap.lt_size (N p hp).1) ((List.mem_singleton.mp hI) ▸ Nat.lt_irrefl _)
  · rintro i v m₁ news₁ h t own hi ⟨k, hk⟩ hJ hnw hown _ _ F₁ N₁
    (try ((with_reducible show wpAny _ _ _ _ _ _); k_fold)); (try (with_reducible refine any_tk ?_; intro _))
    obtain ⟨y, ty, rfl, hkn⟩ := enc_at hf hk
    exact step i k y ty _ m₁ news₁ h t own hkn hJ hnw (fun p hp => by have := hown p hp; simpa using this) F₁ N₁
  · intro h' tk m' news' F' N' hJ
    exact done h' tk m' news' F' N' (hlen ▸ hJ)
end
/-- between the turns of a loop for x that turns the one int y and makes nothing -/
noncomputable def JI (x y : Str) (m0 : Str → Option Value) (base : List (Addr × Obj)) (f : Nat → Int) (i : Nat) (m' : Str → Option Value) (n' : List (Addr × Obj)) : Prop :=
  ∃ u t, m' = (fun z => if z = x then u else if z = y then some (.int (f i) t) else m0 z) ∧ n' = base
theorem JI.start {x y : Str} {m0 : Str → Option Value} {base : List (Addr × Obj)} {f : Nat → Int} {t : Tok} (h : m0 y = some (.int (f 0) t)) (hxy : y ≠ x) : JI x y m0 base f 0 m0 base := by
  refine ⟨m0 x, t, ?_, rfl⟩
  funext z
  by_cases h1 : z = x
  · simp [h1]
  · by_cases h2 : z = y
    · subst h2; simp [h1, h]
    · simp [h1, h2]
theorem ji_step {x y : Str} {m0 : Str → Option Value} {base own : List (Addr × Obj)} {f : Nat → Int} {i : Nat} {u v : Option Value} {a b : Int} {ta tb : Tok} {g h2 : Heap} {L it : Addr} {s₁ : Shared} {tk : Nat}
    (F : Fr g L h2 (fun z => if z = y then some (.int b tb) else if z = x then v else if z = x then u else if z = y then some (.int a ta) else m0 z)) (N : News g L h2 (own ++ base)) (hnw : ∀ p ∈ base, p.1 ∉ [it]) (hxy : y ≠ x) (e : f (i + 1) = b) :
    LoopStepU g L [it] own (JI x y m0 base f (i + 1)) s₁ .next { s₁ with heap := h2, toks := tk } := by
  refine LoopStepU.intro F N hnw ⟨v, tb, ?_, rfl⟩
  funext z
  by_cases h1 : z = y
  · subst h1; simp [hxy, e]
  · by_cases h2 : z = x
    · simp [h2, Ne.symm hxy]
    · simp [h1, h2]
noncomputable def sumV (kn : KN) : Int := (kn.map (·.2)).sum
theorem sumV_take {kn : KN} {i : Nat} {k y : Int} (h : kn[i]? = some (k, y)) : sumV (kn.take (i + 1)) = sumV (kn.take i) + y := by
  unfold sumV
  rw [List.take_add_one, h, List.map_append, List.sum_append]
  simp
end Mine
end

section -- C7
open PySem PySem.W PyProof.Rows PyProof.V PySem.Spec
set_option maxRecDepth 100000
set_option maxHeartbeats 8000000
namespace Mine
theorem off_C7 : True := by
  w_top off
  trivial
theorem count_con (w : World) (mean : ExcName → Option Value) (mg mb : Str → Option Value) (t : Addr) (ot : Obj) (kt : KN) (Dt : DAt w t ot kt) :
    Con w mean mg mb 56 [.ref t] 1 (fun news => (t, ot) ∈ news) (IntOut (sumV kt)) := by
  unfold Con
  intro dp un gd cn cs a ccd cl outer A₀ base h₀ L m news s Q E B F X N T hk hd hu hp hret
  refine wpAny_call ?_
  k_dflt cell_enter
  (try ((with_reducible show wpAny _ _ _ _ _ _); k_fold)); (try (with_reducible refine any_tk ?_; intro _)); (repeat' (first | (k_unfold; (try dsimp only)) | (k_end; wrow_close) | ((with_reducible show wpAny _ _ (execs (_ :: _) _) _ _ _); (with_reducible refine any_tk ?_); intro _) | ((with_reducible show wpAny _ _ (call (Value.builtin "dict.values") _) _ _ _); k_dflt (k_here; k_dflt (refine' d_values_call ?F ?N ?m ?D ?_; (case F => k_asm); (case N => k_asm); (case D => assumption); (case m => k_mem)); intro _ _ _ _ _ _ _)) | ((with_reducible show wpAny _ _ (getMethod (Value.ref _) _ _) _ _ _); k_dflt (k_here; k_dflt (refine' d_method ?i ?N ?m ?D ?_; (case i => exact rfl); (case N => k_asm); (case D => assumption); (case m => k_mem)))) | ((with_reducible show wpAny _ _ (exec (PySem.Stmt.For (PySem.Expr.Name _ _) (PySem.Expr.Call _ _ _ _) _ _ _) _) _ _ _); k_dflt (k_here; (with_reducible show wpAny _ _ (exec (Stmt.For (Expr.Name _ _) (Expr.Call (Expr.Attribute _ _ _) _ _ _) _ _ _) _) _ _ _); (rename Fr _ _ _ _ => F9); k_dflt (refine for_name F9 (by rfl) (by rfl) ?_))) | walk1 | (dsimp only; walk1) | (leave1; walk_say "STEP leave1"; try dsimp only) | fail "no step"))
  (rename Fr _ _ _ _ => F1)
  (rename News _ _ _ _ => N1)
  have N2 := news_drop N1
  clear N1
  k_dflt (refine' d_values (J := JI (Str.ofString "calls") (Str.ofString "nc") _ _ (fun i => sumV (kt.take i))) ?qhh ?qvw F1 N2 ?qhm Dt (JI.start ?qz ?qn) ?qstep ?qdone)
  (case qhh => exact rfl)
  (case qvw => assumption)
  (case qhm => exact hp)
  (case qz => exact rfl)
  (case qn => decide)
  · rintro i k y ty it m₁ news₁ h9 t9 own hi ⟨u, t8, rfl, rfl⟩ hnw hown F3 N3
    (try ((with_reducible show wpAny _ _ _ _ _ _); k_fold)); (try (with_reducible refine any_tk ?_; intro _))
    (try ((with_reducible show wpAny _ _ _ _ _ _); k_fold)); (try (with_reducible refine any_tk ?_; intro _)); (repeat' (first | (k_unfold; (try dsimp only)) | (k_end; wrow_close) | ((with_reducible show wpAny _ _ (execs (_ :: _) _) _ _ _); (with_reducible refine any_tk ?_); intro _) | ((with_reducible show wpAny _ _ (call (Value.builtin "dict.values") _) _ _ _); k_dflt (k_here; k_dflt (refine' d_values_call ?F ?N ?m ?D ?_; (case F => k_asm); (case N => k_asm); (case D => assumption); (case m => k_mem)); intro _ _ _ _ _ _ _)) | ((with_reducible show wpAny _ _ (getMethod (Value.ref _) _ _) _ _ _); k_dflt (k_here; k_dflt (refine' d_method ?i ?N ?m ?D ?_; (case i => exact rfl); (case N => k_asm); (case D => assumption); (case m => k_mem)))) | ((with_reducible show wpAny _ _ (exec (PySem.Stmt.For (PySem.Expr.Name _ _) (PySem.Expr.Call _ _ _ _) _ _ _) _) _ _ _); k_dflt (k_here; (with_reducible show wpAny _ _ (exec (Stmt.For (Expr.Name _ _) (Expr.Call (Expr.Attribute _ _ _) _ _ _) _ _ _) _) _ _ _); (rename Fr _ _ _ _ => F9); k_dflt (refine for_name F9 (by rfl) (by rfl) ?_))) | walk1 | (dsimp only; walk1) | (leave1; walk_say "STEP leave1"; try dsimp only) | fail "no step"))
    exact ji_step (by assumption) (by assumption) hnw (by decide) (sumV_take hi)
  · rintro h9 t9 m' n' F3 N3 ⟨u, t8, rfl, rfl⟩
    (try ((with_reducible show wpAny _ _ _ _ _ _); k_fold)); (try (with_reducible refine any_tk ?_; intro _))
    dsimp only at F3
    rw [List.take_length] at F3
    clear F1 N2
    (try ((with_reducible show wpAny _ _ _ _ _ _); k_fold)); (try (with_reducible refine any_tk ?_; intro _)); (repeat' (first | (k_unfold; (try dsimp only)) | (k_end; wrow_close) | ((with_reducible show wpAny _ _ (execs (_ :: _) _) _ _ _); (with_reducible refine any_tk ?_); intro _) | ((with_reducible show wpAny _ _ (call (Value.builtin "dict.values") _) _ _ _); k_dflt (k_here; k_dflt (refine' d_values_call ?F ?N ?m ?D ?_; (case F => k_asm); (case N => k_asm); (case D => assumption); (case m => k_mem)); intro _ _ _ _ _ _ _)) | ((with_reducible show wpAny _ _ (getMethod (Value.ref _) _ _) _ _ _); k_dflt (k_here; k_dflt (refine' d_method ?i ?N ?m ?D ?_; (case i => exact rfl); (case N => k_asm); (case D => assumption); (case m => k_mem)))) | ((with_reducible show wpAny _ _ (exec (PySem.Stmt.For (PySem.Expr.Name _ _) (PySem.Expr.Call _ _ _ _) _ _ _) _) _ _ _); k_dflt (k_here; (with_reducible show wpAny _ _ (exec (Stmt.For (Expr.Name _ _) (Expr.Call (Expr.Attribute _ _ _) _ _ _) _ _ _) _) _ _ _); (rename Fr _ _ _ _ => F9); k_dflt (refine for_name F9 (by rfl) (by rfl) ?_))) | walk1 | (dsimp only; walk1) | (leave1; walk_say "STEP leave1"; try dsimp only) | fail "no step"))
    exact hret _ [] _ _ (by assumption) (by assumption) ord0 intOut
end Mine
end

section -- C1
open PySem PySem.W PyProof.Rows
set_option maxRecDepth 100000
set_option maxHeartbeats 8000000
namespace Mine
theorem off_C1 : True := by
  w_top off
  trivial

theorem rgb_con (w : World) (mean : ExcName → Option Value) (mg mb : Str → Option Value) (r g b : UInt64) (tr tg tb : Tok) (hok : rgbOk r g b = true) :
    Con w mean mg mb 21 [.float r tr, .float g tg, .float b tb] 1 NoPre (Tup3 (rgbF r g b)) := by
  unfold Con
  intro dp un gd cn cs a ccd cl outer A₀ base h₀ L m news s Q E B F X N T hk hd hu hp hret
  refine wpAny_call ?_
  k_dflt cell_enter
  (try ((with_reducible show wpAny _ _ _ _ _ _); k_fold)); (try (with_reducible refine any_tk ?_; intro _)); (repeat' (first | (k_unfold; (try dsimp only)) | (k_end; wrow_close) | ((with_reducible show wpAny _ _ (execs (_ :: _) _) _ _ _); (with_reducible refine any_tk ?_); intro _) | ((with_reducible show wpAny _ _ (call _ _) _ _ _); (first | ((with_reducible show wpAny _ _ (call (Value.builtin "min") _) _ _ _); k_dflt ((with_reducible show wpAny _ _ (call (Value.builtin _) [Value.float _ _, Value.float _ _, Value.float _ _]) _ _ _); k_here; k_dflt (refine' min3_K ?k1 ?k2 ?k3 ?_; (case k1 => exact rfl); (case k2 => k_asm); (case k3 => k_asm)); intro _ _ _ _ _)) | ((with_reducible show wpAny _ _ (call (Value.builtin "max") _) _ _ _); k_dflt ((with_reducible show wpAny _ _ (call (Value.builtin _) [Value.float _ _, Value.float _ _, Value.float _ _]) _ _ _); k_here; k_dflt (refine' max3_K ?k1 ?k2 ?k3 ?_; (case k1 => exact rfl); (case k2 => k_asm); (case k3 => k_asm)); intro _ _ _ _ _)))) | walk1 | (dsimp only; walk1) | (leave1; walk_say "STEP leave1"; try dsimp only) | fail "no step"))
  all_goals first
    | exact hret _ [_] _ _ (by assumption) (by assumption) (ord1 (by assumption)) (tup3 (rgbF_1 (by assumption)))
    | exact hret _ [_] _ _ (by assumption) (by assumption) (ord1 (by assumption)) (tup3 (rgbF_2 (by assumption) (by assumption)))
    | exact hret _ [_] _ _ (by assumption) (by assumption) (ord1 (by assumption)) (tup3 (rgbF_3 (by assumption) (by assumption) (by assumption)))
    | exact hret _ [_] _ _ (by assumption) (by assumption) (ord1 (by assumption)) (tup3 (rgbF_4 (by assumption) (by assumption) (by assumption)))
    | exact (rgbOk_1 hok (by assumption) (by assumption)).elim
    | exact (rgbOk_2 hok (by assumption) (by assumption)).elim
end Mine
end

section -- C3
open PySem PySem.W PyProof.Rows
set_option maxRecDepth 100000
set_option maxHeartbeats 8000000
namespace Mine
theorem off_C3 : True := by
  w_top off
  trivial
theorem spot_con (w : World) (mean : ExcName → Option Value) (mg mb : Str → Option Value) (turns stops : Int) (tt ts : Tok) (ok : SpotOk turns stops) :
    Con w mean mg mb 63 [.int turns tt, .int stops ts] 2 NoPre (IntOut (turns.fmod stops)) := by
  have ok1 := ok.hsv
  have ok2 := ok.rgb
  unfold Con
  intro dp un gd cn cs a ccd cl outer A₀ base h₀ L m news s Q E B F X N T hk hd hu hp hret
  refine wpAny_call ?_
  k_dflt cell_enter
  (try ((with_reducible show wpAny _ _ _ _ _ _); k_fold)); (try (with_reducible refine any_tk ?_; intro _)); (repeat' (first | (k_unfold; (try dsimp only)) | (k_end; wrow_close) | ((with_reducible show wpAny _ _ (execs (_ :: _) _) _ _ _); (with_reducible refine any_tk ?_); intro _) | ((with_reducible show wpAny _ _ (call _ _) _ _ _); (first | ((with_reducible show wpAny _ _ (call (Value.ref _) _) _ _ _); k_dflt ((with_reducible show wpAny _ _ (call (Value.ref 21) [Value.float _ _, Value.float _ _, Value.float _ _]) _ _ _); k_here; k_dflt (refine' Con.use ?k1 ?k2 ?k3 ?k4 ?k5 ?kK (rgb_con _ _ _ _ _ _ _ _ _ _ ?hok) ?kd ?ku ?kp ?_; (case k1 => k_asm); (case k2 => k_asm); (case k3 => k_asm); (case k4 => k_asm); (case k5 => k_asm); (case kK => first | exact rfl | assumption); (case kp => trivial); (case kd => ktr_room); (case ku => ktr_units); (case hok => assumption); k_whole); refine el_tup ?_; intro _ _ _ _ _ _ _ N9 _; (dsimp only [List.cons_append, List.nil_append] at N9); (try k_fold))) | ((with_reducible show wpAny _ _ (call (Value.ref _) _) _ _ _); k_dflt ((with_reducible show wpAny _ _ (call (Value.ref 28) [Value.float _ _, Value.float _ _, Value.float _ _]) _ _ _); k_here; k_dflt (refine' Con.use ?k1 ?k2 ?k3 ?k4 ?k5 ?kK (hsv_con _ _ _ _ _ _ _ _ _ _ ?hok) ?kd ?ku ?kp ?_; (case k1 => k_asm); (case k2 => k_asm); (case k3 => k_asm); (case k4 => k_asm); (case k5 => k_asm); (case kK => first | exact rfl | assumption); (case kp => trivial); (case kd => ktr_room); (case ku => ktr_units); (case hok => assumption); k_whole); refine el_tup ?_; intro _ _ _ _ _ _ _ N9 _; (dsimp only [List.cons_append, List.nil_append] at N9); (try k_fold))))) | walk1 | (dsimp only; walk1) | (leave1; walk_say "STEP leave1"; try dsimp only) | fail "no step"))
  all_goals first
    | exact hret _ [] _ _ (by assumption) (news_2 (by assumption)) ord0 (intOut' ok.res)
    | exact (ok.nz (by assumption)).elim
    | exact (tf ok.fin (by assumption)).elim
    | exact (tf ok.nan (by assumption)).elim
    | exact (tf ok.inf (by assumption)).elim
    | exact (big_no ok.sm (by assumption)).elim
end Mine
end

section -- C8
open PySem PySem.W PyProof.Rows PyProof.V PySem.Spec
set_option maxRecDepth 100000
set_option maxHeartbeats 8000000
namespace Mine
theorem off_C8 : True := by
  w_top off
  trivial
theorem colour_con (w : World) (mean : ExcName → Option Value) (mg mb : Str → Option Value) (t : Addr) (a1 b1 c1 n1 : Int) (kt : KN) (ok : ColOk a1 b1 c1 n1) :
    Con w mean mg mb 98 [.ref t] 2 (fun news => StatIn w t a1 b1 c1 n1 kt news) (Tup3 (colF a1 b1 c1 n1)) := by
  have ok1 := ok.rgb
  unfold Con
  intro dp un gd cn cs a ccd cl outer A₀ base h₀ L m news s Q E B F X N T hk hd hu hp hret
  obtain ⟨d1, o1, u1, u2, u3, u4, hm1, hd1, D1⟩ := hp
  refine wpAny_call ?_
  k_dflt cell_enter
  (try ((with_reducible show wpAny _ _ _ _ _ _); k_fold)); (try (with_reducible refine any_tk ?_; intro _)); (repeat' (first | (k_unfold; (try dsimp only)) | (k_end; wrow_close) | ((with_reducible show wpAny _ _ (execs (_ :: _) _) _ _ _); (with_reducible refine any_tk ?_); intro _) | ((with_reducible show wpAny _ _ (call (Value.ref _) _) _ _ _); k_dflt ((with_reducible show wpAny _ _ (call (Value.ref 21) [Value.float _ _, Value.float _ _, Value.float _ _]) _ _ _); k_here; k_dflt (refine' Con.use ?k1 ?k2 ?k3 ?k4 ?k5 ?kK (rgb_con _ _ _ _ _ _ _ _ _ _ ?hok) ?kd ?ku ?kp ?_; (case k1 => k_asm); (case k2 => k_asm); (case k3 => k_asm); (case k4 => k_asm); (case k5 => k_asm); (case kK => first | exact rfl | assumption); (case kp => trivial); (case kd => ktr_room); (case ku => ktr_units); (case hok => assumption); k_whole); refine el_tup ?_; intro _ _ _ _ _ _ _ N9 _; (dsimp only [List.cons_append, List.nil_append] at N9); (try k_fold))) | walk1 | (dsimp only; walk1) | (leave1; walk_say "STEP leave1"; try dsimp only) | fail "no step"))
  all_goals first
    | exact hret _ [_] _ _ (by assumption) (by assumption) (by assumption) (tup3 rfl)
    | exact (ok.nz (by assumption)).elim
    | exact (tf ok.f1 (by assumption)).elim
    | exact (tf ok.f2 (by assumption)).elim
    | exact (tf ok.f3 (by assumption)).elim
end Mine
end

section -- P1
open PySem PySem.W PyProof.Rows
set_option maxRecDepth 100000
namespace Mine
noncomputable def spotB (a b : Int) : Bool := decide (b ≠ 0) && decide (b.natAbs < 18446744073709551616) && !Float64.isInf (divF a b) && hsvOk (divF a b) && rgbOk (spotC a b).1 (spotC a b).2.1 (spotC a b).2.2 && !Float64.isNaN (spotX a b) && !Float64.isInf (spotX a b) && decide ((spotI a b).fmod b = a.fmod b)
theorem spotB_ok {a b : Int} (h : spotB a b = true) : SpotOk a b := by
  unfold spotB at h
  simp only [Bool.and_eq_true, decide_eq_true_eq, Bool.not_eq_true'] at h
  obtain ⟨⟨⟨⟨⟨⟨⟨h1, h2⟩, h3⟩, h4⟩, h5⟩, h6⟩, h7⟩, h8⟩ := h
  exact ⟨h1, h2, h3, h4, h5, h6, h7, h8⟩
theorem spot5 : ((List.range 36).all fun a => spotB (a : Int) 5) = true := by decide +kernel
theorem spot6 : ((List.range 36).all fun a => spotB (a : Int) 6) = true := by decide +kernel
theorem spot7 : ((List.range 36).all fun a => spotB (a : Int) 7) = true := by decide +kernel
theorem spot_ok {a b : Int} (h0 : 0 ≤ a) (h1 : a < 36) (hb : b = 5 ∨ b = 6 ∨ b = 7) : SpotOk a b := by
  have hm : a.toNat ∈ List.range 36 := List.mem_range.mpr (by omega)
  have ea : ((a.toNat : Nat) : Int) = a := by omega
  rcases hb with rfl | rfl | rfl
  · have := List.all_eq_true.mp spot5 _ hm; rw [ea] at this; exact spotB_ok this
  · have := List.all_eq_true.mp spot6 _ hm; rw [ea] at this; exact spotB_ok this
  · have := List.all_eq_true.mp spot7 _ hm; rw [ea] at this; exact spotB_ok this
noncomputable def entB (paint a b c : Int) : Bool := let x := hsvF (Float64.div (Float64.ofInt paint) 4613937818241073152) f1 f1
  hsvOk (Float64.div (Float64.ofInt paint) 4613937818241073152) && !Float64.isNaN (Float64.add x.1 4602678819172646912) && !Float64.isInf (Float64.add x.1 4602678819172646912) && !Float64.isNaN (Float64.add x.2.1 4602678819172646912) && !Float64.isInf (Float64.add x.2.1 4602678819172646912) &&
  !Float64.isNaN (Float64.add x.2.2 4602678819172646912) && !Float64.isInf (Float64.add x.2.2 4602678819172646912) && decide (Flt.toInt Float64.truncOf (Float64.add x.1 4602678819172646912) = a) && decide (Flt.toInt Float64.truncOf (Float64.add x.2.1 4602678819172646912) = b) && decide (Flt.toInt Float64.truncOf (Float64.add x.2.2 4602678819172646912) = c)
theorem entB_ok {p a b c : Int} (hp : ¬ Flt.Over p) (h : entB p a b c = true) : EntryOk p a b c := by
  unfold entB at h
  simp only [Bool.and_eq_true, decide_eq_true_eq, Bool.not_eq_true'] at h
  obtain ⟨⟨⟨⟨⟨⟨⟨⟨⟨h1, h2⟩, h3⟩, h4⟩, h5⟩, h6⟩, h7⟩, h8⟩, h9⟩, h10⟩ := h
  exact ⟨hp, h1, h2, h3, h4, h5, h6, h7, h8, h9, h10⟩
theorem ent0 : entB 0 1 0 0 = true := by decide +kernel
theorem ent1 : entB 1 0 1 0 = true := by decide +kernel
theorem ent2 : entB 2 0 0 1 = true := by decide +kernel
end Mine
end

section -- D3
open PySem PySem.W PyProof.Rows PyProof.V PySem.Spec
set_option maxRecDepth 100000
namespace Mine
/-- LoopAtV under a name of its own, so that no line of the library takes it -/
noncomputable def MLoop (prog : Program) (w : World) (A : Around) (h₀ : Heap) (env : Env) (x : Str) (body : List Stmt) (Q : Flow → Shared → Prop) (E : Value → Shared → Prop) (it : Value) (s₂ : Shared) : Prop :=
  LoopAtV prog w A h₀ env x body Q E it s₂
section
variable {prog : Program} {w : World} {A : Around} {E : Value → Shared → Prop} {s : Shared} {env : Env} {h₀ : Heap} {m : Str → Option Value} {news : List (Addr × Obj)} {x : Str} {body : List Stmt} {Q : Flow → Shared → Prop}
theorem for_m {L : Addr} {px pos : Pos} {iter : Expr} (_ : Fr h₀ L s.heap m) (hx : env.kindOf x = some .local)
    (hp : (env.scope.kind == .class || (env.scope.kind == .module && env.locals != env.globals)) = false)
    (h : wpAny (model prog w) A (eval iter env) (fun xv s₁ => wpAny (model prog w) A (pyIter xv) (fun it s₂ => MLoop prog w A h₀ env x body Q E it s₂) E s₁) E s)
    (hs : ∀ x, foldedSetIterable iter env x = pure x := by intro _; rfl)
    (hE : PassesOwn (model prog w) A env E := by passes_own) :
    wpAny (model prog w) A (exec (.For (.Name x px) iter body [] pos) env) Q E s := For_invV h₀ hx hp h hs hE

theorem r_loop {r : Addr} {a₀ b₀ : Int} {t₀ u₀ v₀ : Tok} (n : Nat) (hh : A.handled = none) (hr : IsRange s.heap r a₀ b₀ 1 t₀ u₀ v₀) (hsmall : Builtin.Range.small a₀ b₀ 1 = true) (hn : Builtin.Range.rangeSize a₀ b₀ 1 = (n : Int))
    (F : Fr h₀ env.locals s.heap m) (N : News h₀ env.locals s.heap news) (J : Nat → (Str → Option Value) → List (Addr × Obj) → Prop) (h0 : J 0 m news)
    (step : ∀ i t it m₁ news₁ h tk own, i < n → J i m₁ news₁ → (∀ p ∈ news₁, p.1 ∉ [it]) → (∀ p ∈ own, p.1 = it) → (∃ o, (it, o) ∈ own) →
      Fr h₀ env.locals h (fun y => if y = x then some (.int (a₀ + (i : Nat)) t) else m₁ y) → News h₀ env.locals h (own ++ news₁) →
      wpAny (model prog w) A (execs body env) (LoopStepV h₀ env.locals [it] own (J (i + 1)) { s with heap := h, toks := tk } (fun v s' => Q (.ret v) s') fun s' => Q .next s') E { s with heap := h, toks := tk })
    (done : ∀ h' tk m' news', Fr h₀ env.locals h' m' → News h₀ env.locals h' news' → J n m' news' → Q .next { s with heap := h', toks := tk }) :
    wpAny (model prog w) A (pyIter (.ref r)) (fun it s₂ => MLoop prog w A h₀ env x body Q E it s₂) E s := by
  refine wpAny_pyIter_range hr hsmall ?_
  refine loop_at (news := news) (m := m) (Walks.range hh s.heap.objs.size a₀ 1 n) ?_ ?_ ?_ (by show IsRangeIter _ _ _ _ _; rw [hn]; simpa using Heap.get?_push_size _ rfl) (F.push _) (fun p hp => ⟨Heap.get?_push_of_some _ (N p hp).1, (N p hp).2⟩) J h0 ?_ done
  · intro hm
    exact absurd F.ns.lt ((List.mem_singleton.mp hm) ▸ Nat.lt_irrefl _)
  · intro b hb
    rw [List.mem_singleton.mp hb]
    exact next_is_new F
  · intro p hp hI
    exact absurd (Heap.lt_size (N p hp).1) ((List.mem_singleton.mp hI) ▸ Nat.lt_irrefl _)
  · rintro i v m₁ news₁ h t own hi ⟨tt, hv⟩ hJ hnw hown hall hit F₁ N₁
    (try ((with_reducible show wpAny _ _ _ _ _ _); k_fold)); (try (with_reducible refine any_tk ?_; intro _))
    rw [Int.mul_one] at hv
    subst hv
    exact step i tt _ m₁ news₁ h t own hi hJ hnw (fun p hp => by have := hown p hp; simpa using this) ⟨_, hall _ (List.mem_singleton.mpr rfl) (next_is_new F) _ hit⟩ F₁ N₁
end
theorem range_size {a b : Int} {n : Nat} (h : b = a + n) : Builtin.Range.rangeSize a b 1 = (n : Int) := by
  unfold Builtin.Range.rangeSize
  rw [if_pos (by decide)]
  subst h
  split
  · rw [Int.ediv_one]; omega
  · omega

theorem list_item {prog : Program} {w : World} {A : Around} {E : Value → Shared → Prop} {s : Shared} {h₀ : Heap} {L : Addr} {news : List (Addr × Obj)} {value slice : Expr} {l : Addr} {vs : List Value} {n : Nat} {k : Int} {u : Tok} {v : Value} {Q : Value → Shared → Prop}
    (N : News h₀ L s.heap news) (hm : (l, { cls := .type "list", data := .seq vs.toArray n }) ∈ news) (h0 : 0 ≤ k) (hhi : k < 2 ^ 63) (hx : vs[k.toNat]? = some v) (h : Q v s)
    (hs : ∀ (l : Addr) (k : Int) (u : Tok), subscripted slice false (.ref l) (.int k u) = operate [.ref l, .int k u] (getItem (.ref l) (.int k u)) := by intro _ _ _; with_unfolding_all rfl) :
    wpAny (model prog w) A (subscriptTail value slice (.ref l) (.int k u)) Q E s :=
  have hl : s.heap.IsList l vs.toArray := News.isList N hm
  tail_any hl.typeIs slot_list_getitem.lookup (wpAny_getItem_list hl h0 hhi (by simpa using hx) h) (hs l k u)

theorem tup_item {prog : Program} {w : World} {A : Around} {E : Value → Shared → Prop} {s : Shared} {h₀ : Heap} {L : Addr} {news : List (Addr × Obj)} {value slice : Expr} {l : Addr} {vs : List Value} {k : Int} {u : Tok} {j : Nat} {v : Value} {Q : Value → Shared → Prop}
    (N : News h₀ L s.heap news) (hm : (l, tupO vs) ∈ news) (h0 : -(2 ^ 63) ≤ k) (hhi : k < 2 ^ 63) (hj : seqIndex? k vs.length = some j) (hx : vs[j]? = some v) (h : Q v s)
    (hs : ∀ (l : Addr) (k : Int) (u : Tok), subscripted slice false (.ref l) (.int k u) = operate [.ref l, .int k u] (getItem (.ref l) (.int k u)) := by intro _ _ _; with_unfolding_all rfl) :
    wpAny (model prog w) A (subscriptTail value slice (.ref l) (.int k u)) Q E s :=
  item_tupleT (News.isTup N hm) h0 hhi hj hx h (hs l k u)

/-- between the turns of the loops that make the tally anew -/
noncomputable def JT (w : World) (stale : List Str) (m0 : Str → Option Value) (base : List (Addr × Obj)) (ok : Addr → Prop) (f : Nat → KN) (i : Nat) (m' : Str → Option Value) (n' : List (Addr × Obj)) : Prop :=
  ∃ (u : Str → Option Value) (dT : Addr) (oT : Obj), m' = (fun y => if y = Str.ofString "tally" then some (.ref dT) else if stale.contains y then u y else m0 y) ∧ n' = (dT, oT) :: base ∧ ok dT ∧ DAt w dT oT (f i)
theorem JT.mk {w : World} {stale : List Str} {m0 m' : Str → Option Value} {base : List (Addr × Obj)} {ok : Addr → Prop} {f : Nat → KN} {i : Nat} {dT : Addr} {oT : Obj} {y : KN} (hl : ok dT) (D : DAt w dT oT y) (e : f i = y) (hT : m' (Str.ofString "tally") = some (.ref dT))
    (hr : ∀ y, y ≠ Str.ofString "tally" → stale.contains y = false → m' y = m0 y) : JT w stale m0 base ok f i m' ((dT, oT) :: base) := by
  refine ⟨m', dT, oT, ?_, rfl, hl, e ▸ D⟩
  funext y
  by_cases h1 : y = Str.ofString "tally"
  · subst h1; simp [hT]
  · rw [if_neg h1]
    by_cases h2 : stale.contains y = true
    · rw [if_pos h2]
    · rw [if_neg h2]; exact hr y h1 (by simpa using h2)
theorem JT.start {w : World} {stale : List Str} {m0 : Str → Option Value} {base : List (Addr × Obj)} {ok : Addr → Prop} {f : Nat → KN} {dT : Addr} {oT : Obj} {y : KN} (hl : ok dT) (D : DAt w dT oT y) (e : f 0 = y) (hT : m0 (Str.ofString "tally") = some (.ref dT)) :
    JT w stale m0 base ok f 0 m0 ((dT, oT) :: base) := JT.mk hl D e hT fun _ _ _ => rfl
theorem cont_cons {a y : Str} {l : List Str} (h : (a :: l).contains y = false) : y ≠ a ∧ l.contains y = false := by
  rw [List.contains_cons, Bool.or_eq_false_iff] at h
  exact ⟨fun e => by rw [e] at h; simp at h, h.2⟩
theorem jt_end {w : World} {g h2 : Heap} {L it : Addr} {stale : List Str} {m0 m' : Str → Option Value} {base own : List (Addr × Obj)} {ok : Addr → Prop} {f : Nat → KN} {i : Nat} {dT d0 : Addr} {oT o0 : Obj} {s₁ : Shared} {tk : Nat} {y : KN}
    (F : Fr g L h2 m') (N : News g L h2 (own ++ (dT, oT) :: base)) (hw : ∀ p ∈ (d0, o0) :: base, p.1 ∉ [it]) (hd : dT ≠ it) (hl : ok dT) (D : DAt w dT oT y) (e : f (i + 1) = y) (hT : m' (Str.ofString "tally") = some (.ref dT))
    (hr : ∀ y, y ≠ Str.ofString "tally" → stale.contains y = false → m' y = m0 y) : LoopStepU g L [it] own (JT w stale m0 base ok f (i + 1)) s₁ .next { s₁ with heap := h2, toks := tk } :=
  LoopStepU.intro F N (fun p hp hm => by
    rcases List.mem_cons.mp hp with rfl | hp
    · exact hd (List.mem_singleton.mp hm)
    · exact hw p (.tail _ hp) hm) (JT.mk hl D e hT hr)
theorem allLt_mem {d : Addr} {l : List (Addr × Obj)} (h : AllLt d l) : ∀ p ∈ l, p.1 < d := by
  induction l with
  | nil => intro p hp; cases hp
  | cons a r ih =>
    intro p hp
    rcases List.mem_cons.mp hp with e | hp
    · rw [e]; exact h.1
    · exact ih h.2 p hp
theorem news_m1 {h₀ h : Heap} {L : Addr} {a : Addr × Obj} {own l : List (Addr × Obj)} (N : News h₀ L h (own ++ a :: l)) : News h₀ L h (a :: (own ++ l)) := news_sub N fun p hp => by
  rcases List.mem_cons.mp hp with rfl | hp
  · exact List.mem_append_right _ (.head _)
  · rcases List.mem_append.mp hp with hp | hp
    · exact List.mem_append_left _ hp
    · exact List.mem_append_right _ (.tail _ hp)
theorem news_m2 {h₀ h : Heap} {L : Addr} {a x y : Addr × Obj} {own l : List (Addr × Obj)} (N : News h₀ L h (x :: y :: (own ++ a :: l))) : News h₀ L h (a :: x :: y :: (own ++ l)) := news_sub N fun p hp => by
  rcases List.mem_cons.mp hp with rfl | hp
  · exact .tail _ (.tail _ (List.mem_append_right _ (.head _)))
  · rcases List.mem_cons.mp hp with rfl | hp
    · exact .head _
    · rcases List.mem_cons.mp hp with rfl | hp
      · exact .tail _ (.head _)
      · rcases List.mem_append.mp hp with hp | hp
        · exact .tail _ (.tail _ (List.mem_append_left _ hp))
        · exact .tail _ (.tail _ (List.mem_append_right _ (.tail _ hp)))
theorem news_e1 {h₀ h : Heap} {L : Addr} {a : Addr × Obj} {own l : List (Addr × Obj)} (N : News h₀ L h (a :: (own ++ l))) : News h₀ L h (own ++ a :: l) := news_sub N fun p hp => by
  rcases List.mem_append.mp hp with hp | hp
  · exact .tail _ (List.mem_append_left _ hp)
  · rcases List.mem_cons.mp hp with rfl | hp
    · exact .head _
    · exact .tail _ (List.mem_append_right _ hp)
theorem news_e2 {h₀ h : Heap} {L : Addr} {a x y : Addr × Obj} {own l : List (Addr × Obj)} (N : News h₀ L h (a :: x :: y :: (own ++ l))) : News h₀ L h (own ++ a :: l) := news_sub N fun p hp => by
  rcases List.mem_append.mp hp with hp | hp
  · exact .tail _ (.tail _ (.tail _ (List.mem_append_left _ hp)))
  · rcases List.mem_cons.mp hp with rfl | hp
    · exact .head _
    · exact .tail _ (.tail _ (.tail _ (List.mem_append_right _ hp)))
noncomputable abbrev SH : List Str := ["high", "top", "mixed", "hue", "share", "value", "orders", "many"]
noncomputable abbrev SM : List Str := "middle" :: "pair" :: SH
noncomputable abbrev SL : List Str := "low" :: SM
theorem off_SH {y : Str} (h : SH.contains y = false) : y ≠ Str.ofString "high" ∧ y ≠ Str.ofString "top" ∧ y ≠ Str.ofString "mixed" ∧ y ≠ Str.ofString "hue" ∧ y ≠ Str.ofString "share" ∧ y ≠ Str.ofString "value" ∧ y ≠ Str.ofString "orders" ∧ y ≠ Str.ofString "many" := by
  obtain ⟨h1, h⟩ := cont_cons h
  obtain ⟨h2, h⟩ := cont_cons h
  obtain ⟨h3, h⟩ := cont_cons h
  obtain ⟨h4, h⟩ := cont_cons h
  obtain ⟨h5, h⟩ := cont_cons h
  obtain ⟨h6, h⟩ := cont_cons h
  obtain ⟨h7, h⟩ := cont_cons h
  obtain ⟨h8, h⟩ := cont_cons h
  exact ⟨h1, h2, h3, h4, h5, h6, h7, h8⟩
theorem d_values_m {w : World} {A : Around} {E : Value → Shared → Prop} {s : Shared} {env : Env} {h₀ : Heap} {m : Str → Option Value} {news : List (Addr × Obj)} {d vw : Addr} {o : Obj} {kn : KN} {x : Str} {body : List Stmt} {Q : Flow → Shared → Prop}
    (hh : A.handled = none) (hvw : s.heap.IsValuesView vw d) (F : Fr h₀ env.locals s.heap m) (N : News h₀ env.locals s.heap news) (hm : (d, o) ∈ news) (D : DAt w d o kn)
    (J : Nat → (Str → Option Value) → List (Addr × Obj) → Prop) (h0 : J 0 m news)
    (step : ∀ i k y ty it m₁ news₁ h t own, kn[i]? = some (k, y) → J i m₁ news₁ → (∀ p ∈ news₁, p.1 ∉ [it]) → (∀ p ∈ own, p.1 = it ∨ p.1 = d) →
      Fr h₀ env.locals h (fun z => if z = x then some (.int y ty) else m₁ z) → News h₀ env.locals h (own ++ news₁) →
      wpAny (model PR w) A (execs body env) (LoopStepV h₀ env.locals [it] own (J (i + 1)) { s with heap := h, toks := t } (fun v s' => Q (.ret v) s') fun s' => Q .next s') E { s with heap := h, toks := t })
    (done : ∀ h' tk m' news', Fr h₀ env.locals h' m' → News h₀ env.locals h' news' → J kn.length m' news' → Q .next { s with heap := h', toks := tk }) :
    wpAny (model PR w) A (pyIter (.ref vw)) (fun it s₂ => MLoop PR w A h₀ env x body Q E it s₂) E s := d_values hh hvw F N hm D J h0 step done
theorem stat_mono {w : World} {t : Addr} {a b c n : Int} {kn : KN} {news news' : List (Addr × Obj)} (h : StatIn w t a b c n kn news) (hs : ∀ p ∈ news, p ∈ news') : StatIn w t a b c n kn news' := h.mono hs
theorem stat_here {w : World} {a b c n : Int} {kn : KN} {D d : Addr} {o : Obj} {t1 t2 t3 t4 : Tok} {news : List (Addr × Obj)} (h : DAt w d o kn) :
    StatIn w D a b c n kn ((D, tupO [.int a t1, .int b t2, .int c t3, .int n t4, .ref d]) :: (d, o) :: news) := ⟨d, o, t1, t2, t3, t4, .head _, .tail _ (.head _), h⟩
theorem ne_of_nw {base : List (Addr × Obj)} {it d0 : Addr} {o0 : Obj} (hw : ∀ p ∈ (d0, o0) :: base, p.1 ∉ [it]) : d0 ≠ it := fun e => hw _ (.head _) (by rw [e]; exact .head _)
theorem sub2 {a b : Addr × Obj} {l : List (Addr × Obj)} (h1 : a ∈ l) (h2 : b ∈ l) : ∀ p ∈ [a, b], p ∈ l := fun p hp => by
  rcases List.mem_cons.mp hp with e | hp
  · rw [e]; exact h1
  · rw [List.mem_singleton.mp hp]; exact h2
theorem gt_ne {l : List (Addr × Obj)} {d it : Addr} {o : Obj} (h : ∀ q ∈ l, q.1 < d) (hm : (it, o) ∈ l) : d ≠ it := Nat.ne_of_gt (h _ hm)
theorem news_e0 {h₀ h : Heap} {L : Addr} {a : Addr × Obj} {own base l : List (Addr × Obj)} (N : News h₀ L h l) (h1 : ∀ p ∈ own, p ∈ l) (h2 : a ∈ l) (h3 : ∀ p ∈ base, p ∈ l) : News h₀ L h (own ++ a :: base) := news_sub N fun p hp => by
  rcases List.mem_append.mp hp with hp | hp
  · exact h1 p hp
  · rcases List.mem_cons.mp hp with e | hp
    · rw [e]; exact h2
    · exact h3 p hp
theorem statOut_at {w : World} {a b c n : Int} {kn : KN} {news tl : List (Addr × Obj)} {v : Value} (h : StatOut w a b c n kn news v tl) :
    ∃ D d o t1 t2 t3 t4, v = .ref D ∧ tl = [(D, tupO [.int a t1, .int b t2, .int c t3, .int n t4, .ref d]), (d, o)] ∧ DAt w d o kn ∧ StatIn w D a b c n kn [(D, tupO [.int a t1, .int b t2, .int c t3, .int n t4, .ref d]), (d, o)] :=
  let ⟨D, d, o, t1, t2, t3, t4, hv, htl, hD⟩ := h
  ⟨D, d, o, t1, t2, t3, t4, hv, htl, hD, d, o, t1, t2, t3, t4, .head _, .tail _ (.head _), hD⟩
theorem el_stat {w : World} {a b c n : Int} {kn : KN} {news : List (Addr × Obj)} {R : Value → Heap → Tok → Prop} {A1 : Heap → Prop} {A2 : List (Addr × Obj) → Heap → Prop} {A3 : List (Addr × Obj) → Prop}
    (h : ∀ D d o t1 t2 t3 t4 h' tk', A1 h' → A2 [(D, tupO [.int a t1, .int b t2, .int c t3, .int n t4, .ref d]), (d, o)] h' → A3 [(D, tupO [.int a t1, .int b t2, .int c t3, .int n t4, .ref d]), (d, o)] → DAt w d o kn →
      StatIn w D a b c n kn [(D, tupO [.int a t1, .int b t2, .int c t3, .int n t4, .ref d]), (d, o)] → R (.ref D) h' tk') : ∀ v tl h' tk', A1 h' → A2 tl h' → A3 tl → StatOut w a b c n kn news v tl → R v h' tk' := by
  intro v tl h' tk' a1 a2 a3 ho
  obtain ⟨D, d, o, t1, t2, t3, t4, rfl, rfl, e1, e2⟩ := statOut_at ho
  exact h D d o t1 t2 t3 t4 h' tk' a1 a2 a3 e1 e2
theorem off_SM {y : Str} (h : SM.contains y = false) : y ≠ Str.ofString "middle" ∧ y ≠ Str.ofString "pair" ∧ SH.contains y = false := by
  obtain ⟨h1, h⟩ := cont_cons h
  obtain ⟨h2, h⟩ := cont_cons h
  exact ⟨h1, h2, h⟩
theorem off_SL {y : Str} (h : SL.contains y = false) : y ≠ Str.ofString "low" ∧ SM.contains y = false := cont_cons h
end Mine
end

section -- P2
open PySem PySem.W PyProof.Rows PyProof.V PySem.Spec
set_option maxRecDepth 100000
namespace Mine
@[irreducible] noncomputable def pc (ps : List Int) (c i : Int) : Int := if ps.getD i.toNat 0 = c then 1 else 0
noncomputable abbrev four : Int := 1 + (1 + (1 + 1))
@[irreducible] noncomputable def kxF (a b c : Int) : UInt64 := Float64.add (Float64.mul (Float64.mul 4616189618054758400 (colF a b c four).2.1) (colF a b c four).2.2) 4602678819172646912
@[irreducible] noncomputable def keyF (a b c : Int) : Int := Flt.toInt Float64.truncOf (kxF a b c)
structure MixOk (a b c : Int) : Prop where
  col : ColOk a b c four
  nan : Float64.isNaN (Float64.add (Float64.mul (Float64.mul 4616189618054758400 (colF a b c four).2.1) (colF a b c four).2.2) 4602678819172646912) = false
  inf : Float64.isInf (Float64.add (Float64.mul (Float64.mul 4616189618054758400 (colF a b c four).2.1) (colF a b c four).2.2) 4602678819172646912) = false
noncomputable def menuF (x : Int) : Int := if x = 1 then 1 else if x = 2 then 2 else if x = 3 then 6 else 24
@[irreducible] noncomputable def ordF (kn : KN) : Int := kn.foldl (fun o p => o.fdiv (menuF p.2)) 24
@[irreducible] noncomputable def mixK (i j k l : Int) : KN := addC (addC (addC [(i, 1)] [(j, 1)]) [(k, 1)]) [(l, 1)]
@[irreducible] noncomputable def topF (n g x : Int) : Int := (3 * n + g - x).fmod n
noncomputable def mixP (ps : List Int) (c i j k l : Int) : Int := pc ps c l + (pc ps c k + (pc ps c j + pc ps c i))
noncomputable def quadF (ps : List Int) (i j k l : Int) : Int × Int := (keyF (mixP ps 0 i j k l) (mixP ps 1 i j k l) (mixP ps 2 i j k l), ordF (mixK i j k l))
noncomputable def stepH (n g : Int) (ps : List Int) (i j : Int) (acc : KN) (k : Int) : KN :=
  if topF n g (i + j + k) ≥ k then addC acc [quadF ps i j k (topF n g (i + j + k))] else acc
noncomputable def loopF (g : KN → Int → KN) (a : Int) (acc : KN) : Nat → KN
  | 0 => acc
  | t + 1 => g (loopF g a acc t) (a + (t : Int))
noncomputable def rowH (n g : Int) (ps : List Int) (i : Int) (acc : KN) (j : Int) : KN := loopF (stepH n g ps i j) j acc (n - j).toNat
noncomputable def rowM (n g : Int) (ps : List Int) (acc : KN) (i : Int) : KN := loopF (rowH n g ps i) i acc (n - i).toNat
noncomputable def tallyF (n g : Int) (ps : List Int) : KN := loopF (rowM n g ps) 0 [] n.toNat

theorem addC_len (kt ks : KN) : (addC kt ks).length ≤ kt.length + ks.length := by
  unfold addC
  have h1 := foldl_len addP addP_len ks (kt.foldl putP [])
  have h2 := foldl_len putP putP_len kt []
  have h3 : ([] : KN).length = 0 := rfl
  omega
theorem loopF_len {g : KN → Int → KN} {c : Nat} (hg : ∀ a x, (g a x).length ≤ a.length + c) (a : Int) (acc : KN) (t : Nat) : (loopF g a acc t).length ≤ acc.length + c * t := by
  induction t with
  | zero => exact Nat.le_refl _
  | succ t ih => have := hg (loopF g a acc t) (a + (t : Int)); show (g (loopF g a acc t) (a + (t : Int))).length ≤ _; rw [Nat.mul_succ]; omega
theorem stepH_len (n g : Int) (ps : List Int) (i j : Int) (acc : KN) (k : Int) : (stepH n g ps i j acc k).length ≤ acc.length + 1 := by
  unfold stepH; split
  · have := addC_len acc [quadF ps i j k (topF n g (i + j + k))]; simpa using this
  · omega
theorem rowH_len {n : Int} (hn : n ≤ 7) (g : Int) (ps : List Int) {i : Int} (acc : KN) (j : Int) (hj : 0 ≤ j) : (rowH n g ps i acc j).length ≤ acc.length + 7 := by
  unfold rowH
  have := loopF_len (stepH_len n g ps i j) j acc (n - j).toNat
  omega

/-- each count of a mixture of four lies between 1 and 4 -/
noncomputable def Bd (m : Int) (a : KN) : Prop := ∀ p ∈ a, 1 ≤ p.2 ∧ p.2 ≤ m
theorem putI_bd {m : Int} {a : KN} {k x : Int} (h : Bd m a) (hx : 1 ≤ x ∧ x ≤ m) : Bd m (putI a k x) := by
  unfold putI
  split
  · intro p hp
    obtain ⟨q, hq, e⟩ := List.mem_map.mp hp
    subst e
    split
    · exact hx
    · exact h q hq
  · intro p hp
    rcases List.mem_append.mp hp with hp | hp
    · exact h p hp
    · rw [List.mem_singleton.mp hp]; exact hx
theorem getI_bd {m : Int} : ∀ {a : KN} {k y : Int}, Bd m a → getI a k = some y → 1 ≤ y ∧ y ≤ m
  | [], _, _, _, e => by simp [getI] at e
  | (u, v) :: r, k, y, h, e => by
    unfold getI at e
    split at e
    · cases e; exact h (u, v) (.head _)
    · exact getI_bd (fun q hq => h q (.tail _ hq)) e
theorem foldP_bd {m : Int} : ∀ (a acc : KN), Bd m a → Bd m acc → Bd m (a.foldl putP acc)
  | [], _, _, h => h
  | p :: r, _, ha, hc => foldP_bd r _ (fun q hq => ha q (.tail _ hq)) (putI_bd hc (ha p (.head _)))
theorem addC_bd {m : Int} {a : KN} {i : Int} (hm : 1 ≤ m) (h : Bd m a) : Bd (m + 1) (addC a [(i, 1)]) := by
  have h1 : Bd m (a.foldl putP []) := foldP_bd a [] h (fun _ hp => nomatch hp)
  show Bd (m + 1) (putI (a.foldl putP []) i (match getI (a.foldl putP []) i with | some y => y + 1 | none => 1))
  refine putI_bd (fun p hp => ⟨(h1 p hp).1, Int.le_trans (h1 p hp).2 (Int.le_of_lt (Int.lt_succ m))⟩) ?_
  cases e : getI (a.foldl putP []) i with
  | none => exact ⟨Int.le_refl 1, Int.le_trans hm (Int.le_of_lt (Int.lt_succ m))⟩
  | some y => exact ⟨Int.le_trans (getI_bd h1 e).1 (Int.le_of_lt (Int.lt_succ y)), Int.add_le_add_right (getI_bd h1 e).2 1⟩
theorem mixK_vals {i j k l : Int} (_ : i ≤ j) (_ : j ≤ k) (_ : k ≤ l) {t : Nat} {x y : Int} (h : (mixK i j k l)[t]? = some (x, y)) : y = 1 ∨ y = 2 ∨ y = 3 ∨ y = 4 := by
  have hm := List.mem_of_getElem? h
  have hb : Bd (1 + 1 + 1 + 1) (mixK i j k l) := by
    unfold mixK
    exact addC_bd (by decide) (addC_bd (by decide) (addC_bd (by decide) fun p hp => by rw [List.mem_singleton.mp hp]; exact ⟨Int.le_refl 1, Int.le_refl 1⟩))
  have h1 : 1 ≤ y ∧ y ≤ 1 + 1 + 1 + 1 := hb _ hm
  clear hb hm h
  omega
theorem addC_one_len (a : KN) (p : Int × Int) : (addC a [p]).length ≤ a.length + 1 := by simpa using addC_len a [p]
theorem mix2_len (i j : Int) : (addC [(i, 1)] [(j, 1)]).length ≤ 1000 := Nat.le_trans (addC_one_len ..) (by simp)
theorem mix3_len (i j k : Int) : (addC (addC [(i, 1)] [(j, 1)]) [(k, 1)]).length ≤ 1000 := by
  have h1 := addC_one_len (addC [(i, 1)] [(j, 1)]) (k, 1)
  have h2 := addC_one_len [(i, 1)] (j, 1)
  simp only [List.length_cons, List.length_nil] at h2
  omega
theorem ints_at {ys : List Value} {ns : List Int} (h : IntsAre ys ns) {i : Nat} {n : Int} (e : ns[i]? = some n) : ∃ t, ys[i]? = some (.int n t) := h.get i n e
theorem fourths_at {ys : List Value} {n g : Int} (h : IntsAre ys (List.map (fun k' => (3 * n + g - k').fmod n) (rangeKs 0 (3 * n - 2 - 0).toNat))) {x : Int} (h0 : 0 ≤ x) (h1 : x < 3 * n - 2) : ∃ t, ys[x.toNat]? = some (.int (topF n g x) t) := by
  refine ints_at h ?_
  have e : x.toNat < (3 * n - 2 - 0).toNat := by omega
  rw [List.getElem?_map]
  unfold rangeKs
  rw [List.getElem?_map, List.getElem?_range e]
  unfold topF
  show some ((3 * n + g - (0 + (x.toNat : Int))).fmod n) = _
  have : (0 : Int) + (x.toNat : Int) = x := by omega
  rw [this]
theorem topF_b {n g x : Int} (hn : 0 < n) : 0 ≤ topF n g x ∧ topF n g x < n := by
  unfold topF
  rw [Int.fmod_eq_emod_of_nonneg _ (Int.le_of_lt hn)]
  exact ⟨Int.emod_nonneg _ (by omega), Int.emod_lt_of_pos _ hn⟩
theorem loopF_succ (g : KN → Int → KN) (a : Int) (acc : KN) (t : Nat) : loopF g a acc (t + 1) = g (loopF g a acc t) (a + (t : Int)) := rfl
theorem stepH_pos {n g : Int} {ps : List Int} {i j k : Int} {acc : KN} (h : topF n g (i + j + k) ≥ k) : stepH n g ps i j acc k = addC acc [quadF ps i j k (topF n g (i + j + k))] := if_pos h
theorem stepH_neg {n g : Int} {ps : List Int} {i j k : Int} {acc : KN} (h : ¬ topF n g (i + j + k) ≥ k) : stepH n g ps i j acc k = acc := if_neg h
theorem loopF_len' {g : KN → Int → KN} {c : Nat} (a : Int) (acc : KN) (t : Nat) (hg : ∀ b (s : Nat), s < t → (g b (a + (s : Int))).length ≤ b.length + c) : (loopF g a acc t).length ≤ acc.length + c * t := by
  induction t with
  | zero => exact Nat.le_refl _
  | succ t ih =>
    have h1 := ih fun b s hs => hg b s (Nat.lt_succ_of_lt hs)
    have h2 := hg (loopF g a acc t) t (Nat.lt_succ_self t)
    show (g (loopF g a acc t) (a + (t : Int))).length ≤ _
    rw [Nat.mul_succ]; omega
theorem rowM_len {n : Int} (hn : n ≤ 7) (g : Int) (ps : List Int) (acc : KN) (i : Int) (hi : 0 ≤ i) : (rowM n g ps acc i).length ≤ acc.length + 49 := by
  unfold rowM
  have := loopF_len' (g := rowH n g ps i) (c := 7) i acc (n - i).toNat fun b s hs => rowH_len hn g ps b _ (by omega)
  omega
theorem tally_len {n g : Int} {ps : List Int} (hn : n ≤ 7) {i : Nat} {j k : Nat} {lo mi : Int} (hlo : 0 ≤ lo) (hmi : 0 ≤ mi) (h1 : i ≤ 7) (h2 : j ≤ 7) (h3 : k ≤ 7) :
    (loopF (stepH n g ps lo mi) mi (loopF (rowH n g ps lo) lo (loopF (rowM n g ps) 0 [] i) j) k).length ≤ 1000 := by
  have a1 := loopF_len (stepH_len n g ps lo mi) mi (loopF (rowH n g ps lo) lo (loopF (rowM n g ps) 0 [] i) j) k
  have a2 := loopF_len' (g := rowH n g ps lo) (c := 7) lo (loopF (rowM n g ps) 0 [] i) j fun b s _ => rowH_len hn g ps b _ (by omega)
  have a3 := loopF_len' (g := rowM n g ps) (c := 49) 0 [] i fun b s _ => rowM_len hn g ps b _ (by omega)
  have a4 : ([] : KN).length = 0 := rfl
  omega
noncomputable def ordT (kn : KN) (t : Nat) : Int := (kn.take t).foldl (fun o p => o.fdiv (menuF p.2)) 24
theorem ordT_succ {kn : KN} {t : Nat} {x y : Int} (h : kn[t]? = some (x, y)) : ordT kn (t + 1) = (ordT kn t).fdiv (menuF y) := foldl_at (fun (o : Int) (p : Int × Int) => o.fdiv (menuF p.2)) 24 kn h
theorem ordT_all (kn : KN) : ordT kn kn.length = ordF kn := by unfold ordT ordF; rw [List.take_length]
theorem mixK_at {w : World} {d : Addr} {o : Obj} {i j k l : Int} (h : DAt w d o (addC (addC (addC [(i, 1)] [(j, 1)]) [(k, 1)]) [(l, 1)])) : DAt w d o (mixK i j k l) := by unfold mixK; exact h
theorem quad_eq (ps : List Int) (i j k l : Int) : quadF ps i j k l = (Flt.toInt Float64.truncOf (Float64.add (Float64.mul (Float64.mul 4616189618054758400 (colF (pc ps 0 l + (pc ps 0 k + (pc ps 0 j + pc ps 0 i))) (pc ps 1 l + (pc ps 1 k + (pc ps 1 j + pc ps 1 i))) (pc ps 2 l + (pc ps 2 k + (pc ps 2 j + pc ps 2 i))) four).2.1) (colF (pc ps 0 l + (pc ps 0 k + (pc ps 0 j + pc ps 0 i))) (pc ps 1 l + (pc ps 1 k + (pc ps 1 j + pc ps 1 i))) (pc ps 2 l + (pc ps 2 k + (pc ps 2 j + pc ps 2 i))) four).2.2) 4602678819172646912), ordF (mixK i j k l)) := by
  unfold quadF keyF kxF mixP; rfl
theorem step_pos {n g : Int} {ps : List Int} {i j : Int} {acc : KN} {t : Nat} (h : j + (t : Int) ≤ topF n g (i + j + (j + (t : Int)))) : loopF (stepH n g ps i j) j acc (t + 1) = addC (loopF (stepH n g ps i j) j acc t) [quadF ps i j (j + (t : Int)) (topF n g (i + j + (j + (t : Int))))] :=
  (loopF_succ _ _ _ _).trans (stepH_pos h)
theorem step_neg {n g : Int} {ps : List Int} {i j : Int} {acc : KN} {t : Nat} (h : ¬ j + (t : Int) ≤ topF n g (i + j + (j + (t : Int)))) : loopF (stepH n g ps i j) j acc (t + 1) = loopF (stepH n g ps i j) j acc t :=
  (loopF_succ _ _ _ _).trans (stepH_neg h)
end Mine
end

section -- C9x
open PySem PySem.W PyProof.Rows PyProof.V PySem.Spec
set_option maxRecDepth 100000
set_option maxHeartbeats 8000000
namespace Mine
theorem off_C9x : True := by
  w_top off
  trivial
theorem tally_con (w : World) (mean : ExcName → Option Value) (mg mb : Str → Option Value) (stops goal : Int) (ts tg : Tok) (le : Addr) (vs : List Value) (nn : Nat) (ps : List Int) (hst : stops = 5 ∨ stops = 6 ∨ stops = 7) (hg0 : 0 ≤ goal) (hg1 : goal < stops)
    (hmix : ∀ i j k l : Int, MixOk (mixP ps 0 i j k l) (mixP ps 1 i j k l) (mixP ps 2 i j k l)) :
    Con w mean mg mb 103 [.int stops ts, .ref le, .int goal tg] 4
      (fun news => (le, { cls := .type "list", data := .seq vs.toArray nn }) ∈ news ∧ ∀ i : Int, 0 ≤ i → i < stops → ∃ e, vs[i.toNat]? = some (.ref e) ∧ StatIn w e (pc ps 0 i) (pc ps 1 i) (pc ps 2 i) 1 [(i, 1)] news)
      (DictOut w (tallyF stops goal ps)) := by
  unfold Con
  intro dp un gd cn cs a ccd cl outer A₀ base h₀ L m news s Q E B F X N T hk hd hu hp hret
  obtain ⟨hle, hent⟩ := hp
  refine wpAny_call ?_
  (refine' code_defC ?k1 ?k2 ?k3 ?k4 ?k5 ?kA ?kF ?kK ?k6 ?k7 ?k8 ?k9 ?kB ?kD ?_ ?c2 ?c3 ?c4; (case kA => exact rfl); (case kF => exact rfl); (case kK => assumption); (case k1 => k_asm); (case k2 => k_asm); (case k3 => k_asm); (case k4 => k_asm); (case k5 => k_asm); (case k6 => k_is); (case k7 => k_is); (case k8 => ktr_room); (case k9 => exact BindsTo.of_eq rfl); (case kB => exact rfl); (case kD => decide +kernel); (case c2 => exact rfl); (case c3 => exact rfl); (case c4 => exact rfl); k_whole; intro g' L' h' tk' cells' FG' F' N' Y' B' X' T' l1; (have l0 := l1); (try k_lt l1); k_cells Y'; (try simp only [List.cons_append, List.nil_append] at N'); (try dsimp only); (try k_lift B'); (try k_fold))
  have hsp : 5 ≤ stops ∧ stops ≤ 7 := by omega
  (try ((with_reducible show wpAny _ _ _ _ _ _); k_fold)); (try (with_reducible refine any_tk ?_; intro _)); (repeat' (first | (k_unfold; (try dsimp only)) | (k_end; wrow_close) | ((with_reducible show wpAny _ _ (execs (_ :: _) _) _ _ _); (with_reducible refine any_tk ?_); intro _) | ((with_reducible show KdnMade _ _ _ _ _ _ _); k_dflt (k_here; k_dflt (refine' d_made_one ?F ?N ?l ?lo ?hd ?_; (case F => k_asm); (case N => k_asm); (case l => assumption); (case lo => assumption); (case hd => assumption)); intro _ _ _ _ _)) | ((with_reducible show wpAny _ _ (eval (PySem.Expr.Dict _ _ _) _) _ _ _); k_dflt (k_here; (with_reducible show wpAny _ _ (eval (Expr.Dict (_ :: _) _ _) _) _ _ _); k_dflt (refine' kdn_eval (knd := PySem.intKind _ _) ?F ?N ?b ?a ?l ?e ?n ?_; (case F => k_asm); (case N => k_asm); (case b => exact Top.nolimit (by k_asm)); (case a => rfl); (case l => rfl); (case e => exact List.cons_ne_nil _ _); (case n => exact Nat.le_of_ble_eq_true rfl)); intro _ _ _ _ _ _ _ _)) | ((with_reducible show wpAny _ _ (call _ _) _ _ _); (first | ((with_reducible show wpAny _ _ (call (Value.ref _) _) _ _ _); k_dflt ((with_reducible show wpAny _ _ (call (Value.ref 49) [Value.ref _, Value.ref _]) _ _ _); k_here; k_dflt (refine' Con.use ?k1 ?k2 ?k3 ?k4 ?k5 ?kK (callers_con _ _ _ _ _ _ _ _ _ _ ?q1 ?q2 ?q3 ?q4) ?kd ?ku ?kp ?_; (case k1 => k_asm); (case k2 => k_asm); (case k3 => k_asm); (case k4 => k_asm); (case k5 => k_asm); (case kK => first | exact rfl | assumption); (case q1 => assumption); (case q2 => assumption); (case q3 => assumption); (case q4 => (simp; done)); (case kp => exact And.intro (by k_mem) (by k_mem)); (case kd => ktr_room); (case ku => ktr_units); k_whole); refine el_dict ?_; intro _ _ _ _ _ N9 _ _; (dsimp only [List.cons_append, List.nil_append] at N9); (try k_fold))) | ((with_reducible show wpAny _ _ (call (Value.ref _) _) _ _ _); k_dflt ((with_reducible show wpAny _ _ (call (Value.ref 98) [Value.ref _]) _ _ _); k_here; k_dflt (refine' Con.use ?k1 ?k2 ?k3 ?k4 ?k5 ?kK (colour_con _ _ _ _ _ _ _ _ _ _ ?ok) ?kd ?ku (stat_mono ?p1 ?p2) ?_; (case k1 => k_asm); (case k2 => k_asm); (case k3 => k_asm); (case k4 => k_asm); (case k5 => k_asm); (case kK => first | exact rfl | assumption); (case p1 => assumption); (case p2 => first | exact sub2 (by k_mem) (by k_mem) | (intro _ _; k_mem)); (case ok => assumption); (case kd => ktr_room); (case ku => ktr_units); k_whole); refine el_tup ?_; intro _ _ _ _ _ _ _ N9 _; (dsimp only [List.cons_append, List.nil_append] at N9); (try k_fold))) | ((with_reducible show wpAny _ _ (call (Value.builtin "dict.values") _) _ _ _); k_dflt (k_here; k_dflt (refine' d_values_call ?F ?N ?m ?D ?_; (case F => k_asm); (case N => k_asm); (case D => assumption); (case m => k_mem)); intro _ _ _ _ _ _ _)) | ((with_reducible show wpAny _ _ (call (Value.ref _) _) _ _ _); k_dflt ((with_reducible show wpAny _ _ (call (Value.ref 42) [Value.ref _, Value.ref _]) _ _ _); k_here; k_dflt (refine' Con.use ?k1 ?k2 ?k3 ?k4 ?k5 ?kK (stats_con _ _ _ _ _ _ _ _ _ _ _ _ _ _ _ _ ?q1 ?q2) ?kd ?ku (And.intro (stat_mono ?p1 ?p2) (stat_mono ?p3 ?p4)) ?_; (case k1 => k_asm); (case k2 => k_asm); (case k3 => k_asm); (case k4 => k_asm); (case k5 => k_asm); (case kK => first | exact rfl | assumption); (case p1 => assumption); (case p3 => assumption); (case p2 => first | exact sub2 (by k_mem) (by k_mem) | (intro p9 hp9; k_mem)); (case p4 => first | exact sub2 (by k_mem) (by k_mem) | (intro _ _; k_mem)); (case q1 => first | assumption | exact mix2_len _ _ | exact mix3_len _ _ _ | (simp; done)); (case q2 => first | assumption | (simp; done)); (case kd => ktr_room); (case ku => ktr_units); k_whole); refine el_stat ?_; intro _ _ _ _ _ _ _ _ _ _ N9 _ _ _; (dsimp only [List.cons_append, List.nil_append] at N9); (try k_fold))) | ((with_reducible show wpAny _ _ (call (Value.ref _) _) _ _ _); k_dflt ((with_reducible show wpAny _ _ (call (Value.ref 63) [Value.int _ _, Value.int _ _]) _ _ _); k_here; k_dflt (refine' Con.use ?k1 ?k2 ?k3 ?k4 ?k5 ?kK (spot_con _ _ _ _ _ _ _ _ ?hok) ?kd ?ku ?kp ?_; (case k1 => k_asm); (case k2 => k_asm); (case k3 => k_asm); (case k4 => k_asm); (case k5 => k_asm); (case kK => first | exact rfl | assumption); (case kp => trivial); (case kd => ktr_room); (case ku => ktr_units); (case hok => exact spot_ok (by first | exact fourth_b (by with_reducible assumption) (by with_reducible assumption) (by with_reducible assumption) | omega) (by omega) (by assumption)); k_whole); refine el_int ?_; intro _ _ _ _ N9 _; (dsimp only [List.cons_append, List.nil_append] at N9); (try k_fold))))) | ((with_reducible show wpAny _ _ (getMethod (Value.ref _) _ _) _ _ _); k_dflt (k_here; k_dflt (refine' d_method ?i ?N ?m ?D ?_; (case i => exact rfl); (case N => k_asm); (case D => assumption); (case m => k_mem)))) | ((with_reducible show wpAny _ _ (exec (PySem.Stmt.For (PySem.Expr.Name _ _) (PySem.Expr.Call _ _ _ _) _ _ _) _) _ _ _); k_dflt (k_here; (with_reducible show wpAny _ _ (exec (Stmt.For (Expr.Name _ _) (Expr.Call _ _ _ _) _ _ _) _) _ _ _); (rename Fr _ _ _ _ => F9); k_dflt (refine for_m F9 (by rfl) (by rfl) ?_))) | ((with_reducible show wpAny _ _ (subscriptTail _ _ _ _) _ _ _); (first | ((with_reducible show wpAny _ _ (subscriptTail (PySem.Expr.Name _ _) (PySem.Expr.Constant _ _ _) (Value.ref _) (Value.int _ _)) _ _ _); k_dflt (k_here; (with_reducible show wpAny _ _ (subscriptTail _ _ (Value.ref _) (Value.int _ _)) _ _ _); (refine' tup_item ?N ?hm ?h0 ?h1 ?hj ?hx ?_; (case N => k_asm); (case hm => k_mem); (case h0 => decide); (case h1 => decide); (case hj => rfl); (case hx => rfl)))) | ((with_reducible show wpAny _ _ (subscriptTail (PySem.Expr.Name _ _) (PySem.Expr.BinOp _ _ _ _) (Value.ref _) (Value.int _ _)) _ _ _); k_dflt (k_here; (with_reducible show wpAny _ _ (subscriptTail _ _ (Value.ref _) (Value.int _ _)) _ _ _); k_dflt (refine' list_item ?N ?hm ?h0 ?h1 ?hx ?_; (case N => k_asm); (case hm => k_mem); (case hx => assumption); (case h0 => omega); (case h1 => omega)))) | ((with_reducible show wpAny _ _ (subscriptTail (PySem.Expr.Name _ _) (PySem.Expr.Name _ _) (Value.ref _) (Value.int _ _)) _ _ _); k_dflt (k_here; (with_reducible show wpAny _ _ (subscriptTail _ _ (Value.ref _) (Value.int _ _)) _ _ _); k_dflt (refine' list_item ?N ?hm ?h0 ?h1 ?hx ?_; (case N => k_asm); (case hm => k_mem); (case hx => assumption); (case h0 => omega); (case h1 => omega)))))) | walk1 | (dsimp only; walk1) | (leave1; walk_say "STEP leave1"; try dsimp only) | fail "no step"))
  (rename IsRange _ _ _ _ _ _ _ _ => R1)
  (rename Fr _ _ _ _ => F1)
  (rename News _ _ _ _ => N1)
  (rename IntsAre _ _ => I1)
  have D0 : DAt w _ _ [] := d_new (by assumption) (by assumption)
  (rename (_ < _ ∧ _ < _ ∧ _ < _ ∧ AllLt _ news) => hA)
  have hl0 := allLt_mem hA.2.2.2
  k_dflt (refine' r_loop stops.toNat ?ahh R1 (small_one (by omega) (by omega) (by omega) (by omega)) (range_size (by omega)) F1 N1 (JT w SL _ _ (fun d => ∀ q ∈ news, q.1 < d) (fun t => loopF (rowM stops goal ps) 0 [] t)) (JT.start hl0 D0 rfl ?aT) ?astep ?adone)
  (case ahh => exact rfl)
  (case aT => exact rfl)
  · rintro i t1 it1 m₁ news₁ h9 tk9 own1 hi ⟨u1, dT, oT, rfl, rfl, hlT, hDT⟩ hnw1 hown1 hit1 F3 N3
    (try ((with_reducible show wpAny _ _ _ _ _ _); k_fold)); (try (with_reducible refine any_tk ?_; intro _))
    clear F1 N1 R1
    obtain ⟨oi1, hoi1⟩ := hit1
    have hi' : 0 ≤ 0 + (i : Int) ∧ 0 + (i : Int) < stops := by omega
    (try ((with_reducible show wpAny _ _ _ _ _ _); k_fold)); (try (with_reducible refine any_tk ?_; intro _)); (repeat' (first | (k_unfold; (try dsimp only)) | (k_end; wrow_close) | ((with_reducible show wpAny _ _ (execs (_ :: _) _) _ _ _); (with_reducible refine any_tk ?_); intro _) | ((with_reducible show KdnMade _ _ _ _ _ _ _); k_dflt (k_here; k_dflt (refine' d_made_one ?F ?N ?l ?lo ?hd ?_; (case F => k_asm); (case N => k_asm); (case l => assumption); (case lo => assumption); (case hd => assumption)); intro _ _ _ _ _)) | ((with_reducible show wpAny _ _ (eval (PySem.Expr.Dict _ _ _) _) _ _ _); k_dflt (k_here; (with_reducible show wpAny _ _ (eval (Expr.Dict (_ :: _) _ _) _) _ _ _); k_dflt (refine' kdn_eval (knd := PySem.intKind _ _) ?F ?N ?b ?a ?l ?e ?n ?_; (case F => k_asm); (case N => k_asm); (case b => exact Top.nolimit (by k_asm)); (case a => rfl); (case l => rfl); (case e => exact List.cons_ne_nil _ _); (case n => exact Nat.le_of_ble_eq_true rfl)); intro _ _ _ _ _ _ _ _)) | ((with_reducible show wpAny _ _ (call _ _) _ _ _); (first | ((with_reducible show wpAny _ _ (call (Value.ref _) _) _ _ _); k_dflt ((with_reducible show wpAny _ _ (call (Value.ref 49) [Value.ref _, Value.ref _]) _ _ _); k_here; k_dflt (refine' Con.use ?k1 ?k2 ?k3 ?k4 ?k5 ?kK (callers_con _ _ _ _ _ _ _ _ _ _ ?q1 ?q2 ?q3 ?q4) ?kd ?ku ?kp ?_; (case k1 => k_asm); (case k2 => k_asm); (case k3 => k_asm); (case k4 => k_asm); (case k5 => k_asm); (case kK => first | exact rfl | assumption); (case q1 => assumption); (case q2 => assumption); (case q3 => assumption); (case q4 => (simp; done)); (case kp => exact And.intro (by k_mem) (by k_mem)); (case kd => ktr_room); (case ku => ktr_units); k_whole); refine el_dict ?_; intro _ _ _ _ _ N9 _ _; (dsimp only [List.cons_append, List.nil_append] at N9); (try k_fold))) | ((with_reducible show wpAny _ _ (call (Value.ref _) _) _ _ _); k_dflt ((with_reducible show wpAny _ _ (call (Value.ref 98) [Value.ref _]) _ _ _); k_here; k_dflt (refine' Con.use ?k1 ?k2 ?k3 ?k4 ?k5 ?kK (colour_con _ _ _ _ _ _ _ _ _ _ ?ok) ?kd ?ku (stat_mono ?p1 ?p2) ?_; (case k1 => k_asm); (case k2 => k_asm); (case k3 => k_asm); (case k4 => k_asm); (case k5 => k_asm); (case kK => first | exact rfl | assumption); (case p1 => assumption); (case p2 => first | exact sub2 (by k_mem) (by k_mem) | (intro _ _; k_mem)); (case ok => assumption); (case kd => ktr_room); (case ku => ktr_units); k_whole); refine el_tup ?_; intro _ _ _ _ _ _ _ N9 _; (dsimp only [List.cons_append, List.nil_append] at N9); (try k_fold))) | ((with_reducible show wpAny _ _ (call (Value.builtin "dict.values") _) _ _ _); k_dflt (k_here; k_dflt (refine' d_values_call ?F ?N ?m ?D ?_; (case F => k_asm); (case N => k_asm); (case D => assumption); (case m => k_mem)); intro _ _ _ _ _ _ _)) | ((with_reducible show wpAny _ _ (call (Value.ref _) _) _ _ _); k_dflt ((with_reducible show wpAny _ _ (call (Value.ref 42) [Value.ref _, Value.ref _]) _ _ _); k_here; k_dflt (refine' Con.use ?k1 ?k2 ?k3 ?k4 ?k5 ?kK (stats_con _ _ _ _ _ _ _ _ _ _ _ _ _ _ _ _ ?q1 ?q2) ?kd ?ku (And.intro (stat_mono ?p1 ?p2) (stat_mono ?p3 ?p4)) ?_; (case k1 => k_asm); (case k2 => k_asm); (case k3 => k_asm); (case k4 => k_asm); (case k5 => k_asm); (case kK => first | exact rfl | assumption); (case p1 => assumption); (case p3 => assumption); (case p2 => first | exact sub2 (by k_mem) (by k_mem) | (intro p9 hp9; k_mem)); (case p4 => first | exact sub2 (by k_mem) (by k_mem) | (intro _ _; k_mem)); (case q1 => first | assumption | exact mix2_len _ _ | exact mix3_len _ _ _ | (simp; done)); (case q2 => first | assumption | (simp; done)); (case kd => ktr_room); (case ku => ktr_units); k_whole); refine el_stat ?_; intro _ _ _ _ _ _ _ _ _ _ N9 _ _ _; (dsimp only [List.cons_append, List.nil_append] at N9); (try k_fold))) | ((with_reducible show wpAny _ _ (call (Value.ref _) _) _ _ _); k_dflt ((with_reducible show wpAny _ _ (call (Value.ref 63) [Value.int _ _, Value.int _ _]) _ _ _); k_here; k_dflt (refine' Con.use ?k1 ?k2 ?k3 ?k4 ?k5 ?kK (spot_con _ _ _ _ _ _ _ _ ?hok) ?kd ?ku ?kp ?_; (case k1 => k_asm); (case k2 => k_asm); (case k3 => k_asm); (case k4 => k_asm); (case k5 => k_asm); (case kK => first | exact rfl | assumption); (case kp => trivial); (case kd => ktr_room); (case ku => ktr_units); (case hok => exact spot_ok (by first | exact fourth_b (by with_reducible assumption) (by with_reducible assumption) (by with_reducible assumption) | omega) (by omega) (by assumption)); k_whole); refine el_int ?_; intro _ _ _ _ N9 _; (dsimp only [List.cons_append, List.nil_append] at N9); (try k_fold))))) | ((with_reducible show wpAny _ _ (getMethod (Value.ref _) _ _) _ _ _); k_dflt (k_here; k_dflt (refine' d_method ?i ?N ?m ?D ?_; (case i => exact rfl); (case N => k_asm); (case D => assumption); (case m => k_mem)))) | ((with_reducible show wpAny _ _ (exec (PySem.Stmt.For (PySem.Expr.Name _ _) (PySem.Expr.Call _ _ _ _) _ _ _) _) _ _ _); k_dflt (k_here; (with_reducible show wpAny _ _ (exec (Stmt.For (Expr.Name _ _) (Expr.Call _ _ _ _) _ _ _) _) _ _ _); (rename Fr _ _ _ _ => F9); k_dflt (refine for_m F9 (by rfl) (by rfl) ?_))) | ((with_reducible show wpAny _ _ (subscriptTail _ _ _ _) _ _ _); (first | ((with_reducible show wpAny _ _ (subscriptTail (PySem.Expr.Name _ _) (PySem.Expr.Constant _ _ _) (Value.ref _) (Value.int _ _)) _ _ _); k_dflt (k_here; (with_reducible show wpAny _ _ (subscriptTail _ _ (Value.ref _) (Value.int _ _)) _ _ _); (refine' tup_item ?N ?hm ?h0 ?h1 ?hj ?hx ?_; (case N => k_asm); (case hm => k_mem); (case h0 => decide); (case h1 => decide); (case hj => rfl); (case hx => rfl)))) | ((with_reducible show wpAny _ _ (subscriptTail (PySem.Expr.Name _ _) (PySem.Expr.BinOp _ _ _ _) (Value.ref _) (Value.int _ _)) _ _ _); k_dflt (k_here; (with_reducible show wpAny _ _ (subscriptTail _ _ (Value.ref _) (Value.int _ _)) _ _ _); k_dflt (refine' list_item ?N ?hm ?h0 ?h1 ?hx ?_; (case N => k_asm); (case hm => k_mem); (case hx => assumption); (case h0 => omega); (case h1 => omega)))) | ((with_reducible show wpAny _ _ (subscriptTail (PySem.Expr.Name _ _) (PySem.Expr.Name _ _) (Value.ref _) (Value.int _ _)) _ _ _); k_dflt (k_here; (with_reducible show wpAny _ _ (subscriptTail _ _ (Value.ref _) (Value.int _ _)) _ _ _); k_dflt (refine' list_item ?N ?hm ?h0 ?h1 ?hx ?_; (case N => k_asm); (case hm => k_mem); (case hx => assumption); (case h0 => omega); (case h1 => omega)))))) | walk1 | (dsimp only; walk1) | (leave1; walk_say "STEP leave1"; try dsimp only) | fail "no step"))
    (rename IsRange _ _ _ _ _ _ _ _ => R2)
    (rename Fr _ _ _ _ => F2)
    (rename News _ _ _ _ => N2)
    k_dflt (refine' r_loop (stops - (0 + (i : Int))).toNat ?bhh R2 (small_one (by omega) (by omega) (by omega) (by omega)) (range_size (by omega)) F2 (news_m1 N2) (JT w SM _ _ (fun d => (∀ q ∈ news, q.1 < d) ∧ d ≠ it1) (fun t => loopF (rowH stops goal ps (0 + (i : Int))) (0 + (i : Int)) (loopF (rowM stops goal ps) 0 [] i) t)) (JT.start ⟨hlT, ne_of_nw hnw1⟩ hDT rfl ?bT) ?bstep ?bdone)
    (case bhh => exact rfl)
    (case bT => exact rfl)
    · rintro i2 t2 it2 m₂ news₂ h8 tk8 own2 hi2 ⟨u2, dT2, oT2, rfl, rfl, ⟨hl2, hne2⟩, hD2⟩ hnw2 hown2 hit2 F4 N4
      (try ((with_reducible show wpAny _ _ _ _ _ _); k_fold)); (try (with_reducible refine any_tk ?_; intro _))
      clear F2 N2 R2
      obtain ⟨oi2, hoi2⟩ := hit2
      have hi2' : 0 ≤ 0 + (i : Int) + (i2 : Int) ∧ 0 + (i : Int) + (i2 : Int) < stops := by omega
      obtain ⟨e1, hv1, hS1⟩ := hent (0 + (i : Int)) hi'.1 hi'.2
      obtain ⟨e2, hv2, hS2⟩ := hent (0 + (i : Int) + (i2 : Int)) hi2'.1 hi2'.2
      (try ((with_reducible show wpAny _ _ _ _ _ _); k_fold)); (try (with_reducible refine any_tk ?_; intro _)); (repeat' (first | (k_unfold; (try dsimp only)) | (k_end; wrow_close) | ((with_reducible show wpAny _ _ (execs (_ :: _) _) _ _ _); (with_reducible refine any_tk ?_); intro _) | ((with_reducible show KdnMade _ _ _ _ _ _ _); k_dflt (k_here; k_dflt (refine' d_made_one ?F ?N ?l ?lo ?hd ?_; (case F => k_asm); (case N => k_asm); (case l => assumption); (case lo => assumption); (case hd => assumption)); intro _ _ _ _ _)) | ((with_reducible show wpAny _ _ (eval (PySem.Expr.Dict _ _ _) _) _ _ _); k_dflt (k_here; (with_reducible show wpAny _ _ (eval (Expr.Dict (_ :: _) _ _) _) _ _ _); k_dflt (refine' kdn_eval (knd := PySem.intKind _ _) ?F ?N ?b ?a ?l ?e ?n ?_; (case F => k_asm); (case N => k_asm); (case b => exact Top.nolimit (by k_asm)); (case a => rfl); (case l => rfl); (case e => exact List.cons_ne_nil _ _); (case n => exact Nat.le_of_ble_eq_true rfl)); intro _ _ _ _ _ _ _ _)) | ((with_reducible show wpAny _ _ (call _ _) _ _ _); (first | ((with_reducible show wpAny _ _ (call (Value.ref _) _) _ _ _); k_dflt ((with_reducible show wpAny _ _ (call (Value.ref 49) [Value.ref _, Value.ref _]) _ _ _); k_here; k_dflt (refine' Con.use ?k1 ?k2 ?k3 ?k4 ?k5 ?kK (callers_con _ _ _ _ _ _ _ _ _ _ ?q1 ?q2 ?q3 ?q4) ?kd ?ku ?kp ?_; (case k1 => k_asm); (case k2 => k_asm); (case k3 => k_asm); (case k4 => k_asm); (case k5 => k_asm); (case kK => first | exact rfl | assumption); (case q1 => assumption); (case q2 => assumption); (case q3 => assumption); (case q4 => (simp; done)); (case kp => exact And.intro (by k_mem) (by k_mem)); (case kd => ktr_room); (case ku => ktr_units); k_whole); refine el_dict ?_; intro _ _ _ _ _ N9 _ _; (dsimp only [List.cons_append, List.nil_append] at N9); (try k_fold))) | ((with_reducible show wpAny _ _ (call (Value.ref _) _) _ _ _); k_dflt ((with_reducible show wpAny _ _ (call (Value.ref 98) [Value.ref _]) _ _ _); k_here; k_dflt (refine' Con.use ?k1 ?k2 ?k3 ?k4 ?k5 ?kK (colour_con _ _ _ _ _ _ _ _ _ _ ?ok) ?kd ?ku (stat_mono ?p1 ?p2) ?_; (case k1 => k_asm); (case k2 => k_asm); (case k3 => k_asm); (case k4 => k_asm); (case k5 => k_asm); (case kK => first | exact rfl | assumption); (case p1 => assumption); (case p2 => first | exact sub2 (by k_mem) (by k_mem) | (intro _ _; k_mem)); (case ok => assumption); (case kd => ktr_room); (case ku => ktr_units); k_whole); refine el_tup ?_; intro _ _ _ _ _ _ _ N9 _; (dsimp only [List.cons_append, List.nil_append] at N9); (try k_fold))) | ((with_reducible show wpAny _ _ (call (Value.builtin "dict.values") _) _ _ _); k_dflt (k_here; k_dflt (refine' d_values_call ?F ?N ?m ?D ?_; (case F => k_asm); (case N => k_asm); (case D => assumption); (case m => k_mem)); intro _ _ _ _ _ _ _)) | ((with_reducible show wpAny _ _ (call (Value.ref _) _) _ _ _); k_dflt ((with_reducible show wpAny _ _ (call (Value.ref 42) [Value.ref _, Value.ref _]) _ _ _); k_here; k_dflt (refine' Con.use ?k1 ?k2 ?k3 ?k4 ?k5 ?kK (stats_con _ _ _ _ _ _ _ _ _ _ _ _ _ _ _ _ ?q1 ?q2) ?kd ?ku (And.intro (stat_mono ?p1 ?p2) (stat_mono ?p3 ?p4)) ?_; (case k1 => k_asm); (case k2 => k_asm); (case k3 => k_asm); (case k4 => k_asm); (case k5 => k_asm); (case kK => first | exact rfl | assumption); (case p1 => assumption); (case p3 => assumption); (case p2 => first | exact sub2 (by k_mem) (by k_mem) | (intro p9 hp9; k_mem)); (case p4 => first | exact sub2 (by k_mem) (by k_mem) | (intro _ _; k_mem)); (case q1 => first | assumption | exact mix2_len _ _ | exact mix3_len _ _ _ | (simp; done)); (case q2 => first | assumption | (simp; done)); (case kd => ktr_room); (case ku => ktr_units); k_whole); refine el_stat ?_; intro _ _ _ _ _ _ _ _ _ _ N9 _ _ _; (dsimp only [List.cons_append, List.nil_append] at N9); (try k_fold))) | ((with_reducible show wpAny _ _ (call (Value.ref _) _) _ _ _); k_dflt ((with_reducible show wpAny _ _ (call (Value.ref 63) [Value.int _ _, Value.int _ _]) _ _ _); k_here; k_dflt (refine' Con.use ?k1 ?k2 ?k3 ?k4 ?k5 ?kK (spot_con _ _ _ _ _ _ _ _ ?hok) ?kd ?ku ?kp ?_; (case k1 => k_asm); (case k2 => k_asm); (case k3 => k_asm); (case k4 => k_asm); (case k5 => k_asm); (case kK => first | exact rfl | assumption); (case kp => trivial); (case kd => ktr_room); (case ku => ktr_units); (case hok => exact spot_ok (by first | exact fourth_b (by with_reducible assumption) (by with_reducible assumption) (by with_reducible assumption) | omega) (by omega) (by assumption)); k_whole); refine el_int ?_; intro _ _ _ _ N9 _; (dsimp only [List.cons_append, List.nil_append] at N9); (try k_fold))))) | ((with_reducible show wpAny _ _ (getMethod (Value.ref _) _ _) _ _ _); k_dflt (k_here; k_dflt (refine' d_method ?i ?N ?m ?D ?_; (case i => exact rfl); (case N => k_asm); (case D => assumption); (case m => k_mem)))) | ((with_reducible show wpAny _ _ (exec (PySem.Stmt.For (PySem.Expr.Name _ _) (PySem.Expr.Call _ _ _ _) _ _ _) _) _ _ _); k_dflt (k_here; (with_reducible show wpAny _ _ (exec (Stmt.For (Expr.Name _ _) (Expr.Call _ _ _ _) _ _ _) _) _ _ _); (rename Fr _ _ _ _ => F9); k_dflt (refine for_m F9 (by rfl) (by rfl) ?_))) | ((with_reducible show wpAny _ _ (subscriptTail _ _ _ _) _ _ _); (first | ((with_reducible show wpAny _ _ (subscriptTail (PySem.Expr.Name _ _) (PySem.Expr.Constant _ _ _) (Value.ref _) (Value.int _ _)) _ _ _); k_dflt (k_here; (with_reducible show wpAny _ _ (subscriptTail _ _ (Value.ref _) (Value.int _ _)) _ _ _); (refine' tup_item ?N ?hm ?h0 ?h1 ?hj ?hx ?_; (case N => k_asm); (case hm => k_mem); (case h0 => decide); (case h1 => decide); (case hj => rfl); (case hx => rfl)))) | ((with_reducible show wpAny _ _ (subscriptTail (PySem.Expr.Name _ _) (PySem.Expr.BinOp _ _ _ _) (Value.ref _) (Value.int _ _)) _ _ _); k_dflt (k_here; (with_reducible show wpAny _ _ (subscriptTail _ _ (Value.ref _) (Value.int _ _)) _ _ _); k_dflt (refine' list_item ?N ?hm ?h0 ?h1 ?hx ?_; (case N => k_asm); (case hm => k_mem); (case hx => assumption); (case h0 => omega); (case h1 => omega)))) | ((with_reducible show wpAny _ _ (subscriptTail (PySem.Expr.Name _ _) (PySem.Expr.Name _ _) (Value.ref _) (Value.int _ _)) _ _ _); k_dflt (k_here; (with_reducible show wpAny _ _ (subscriptTail _ _ (Value.ref _) (Value.int _ _)) _ _ _); k_dflt (refine' list_item ?N ?hm ?h0 ?h1 ?hx ?_; (case N => k_asm); (case hm => k_mem); (case hx => assumption); (case h0 => omega); (case h1 => omega)))))) | walk1 | (dsimp only; walk1) | (leave1; walk_say "STEP leave1"; try dsimp only) | fail "no step"))
      (rename IsRange _ _ _ _ _ _ _ _ => R3)
      (rename Fr _ _ _ _ => F6)
      (rename News _ _ _ _ => N6)
      k_dflt (refine' r_loop (stops - (0 + (i : Int) + (i2 : Int))).toNat ?chh R3 (small_one (by omega) (by omega) (by omega) (by omega)) (range_size (by omega)) F6 (news_m2 N6) (JT w SH _ _ (fun d => ((∀ q ∈ news, q.1 < d) ∧ d ≠ it1) ∧ d ≠ it2) (fun t => loopF (stepH stops goal ps (0 + (i : Int)) (0 + (i : Int) + (i2 : Int))) (0 + (i : Int) + (i2 : Int)) (loopF (rowH stops goal ps (0 + (i : Int))) (0 + (i : Int)) (loopF (rowM stops goal ps) 0 [] i) i2) t)) (JT.start ⟨⟨hl2, hne2⟩, ne_of_nw hnw2⟩ hD2 rfl ?cT) ?cstep ?cdone)
      (case chh => exact rfl)
      (case cT => exact rfl)
      · rintro i3 t3 it3 m₃ news₃ h7 tk7 own3 hi3 ⟨u3, dT3, oT3, rfl, rfl, ⟨⟨hl3, hne31⟩, hne32⟩, hD3⟩ hnw3 hown3 hit3 F7 N7
        (try ((with_reducible show wpAny _ _ _ _ _ _); k_fold)); (try (with_reducible refine any_tk ?_; intro _))
        clear F6 N6 R3
        refine (show (let P9 : Prop := _; P9) from ?_)
        intro P9
        obtain ⟨oi3, hoi3⟩ := hit3
        have hi3' : 0 ≤ 0 + (i : Int) + (i2 : Int) + (i3 : Int) ∧ 0 + (i : Int) + (i2 : Int) + (i3 : Int) < stops := by omega
        obtain ⟨e3, hv3, hS3⟩ := hent (0 + (i : Int) + (i2 : Int) + (i3 : Int)) hi3'.1 hi3'.2
        have hx3 : 0 ≤ 0 + (i : Int) + (0 + (i : Int) + (i2 : Int)) + (0 + (i : Int) + (i2 : Int) + (i3 : Int)) ∧ 0 + (i : Int) + (0 + (i : Int) + (i2 : Int)) + (0 + (i : Int) + (i2 : Int) + (i3 : Int)) < 3 * stops - 2 := by omega
        obtain ⟨tF, hvF⟩ := fourths_at I1 hx3.1 hx3.2
        have htop := topF_b (n := stops) (g := goal) (x := 0 + (i : Int) + (0 + (i : Int) + (i2 : Int)) + (0 + (i : Int) + (i2 : Int) + (i3 : Int))) (by omega)
        obtain ⟨e4, hv4, hS4⟩ := hent _ htop.1 htop.2
        have hmx := hmix (0 + (i : Int)) (0 + (i : Int) + (i2 : Int)) (0 + (i : Int) + (i2 : Int) + (i3 : Int)) (topF stops goal (0 + (i : Int) + (0 + (i : Int) + (i2 : Int)) + (0 + (i : Int) + (i2 : Int) + (i3 : Int))))
        have hcol := hmx.col
        have hlen := tally_len (n := stops) (g := goal) (ps := ps) (i := i) (j := i2) (k := i3) hsp.2 hi'.1 hi2'.1 (by omega) (by omega) (by omega)
        show wpAny _ _ _ _ _ _
        (try ((with_reducible show wpAny _ _ _ _ _ _); k_fold)); (try (with_reducible refine any_tk ?_; intro _)); (repeat' (first | (k_unfold; (try dsimp only)) | (k_end; wrow_close) | ((with_reducible show wpAny _ _ (execs (_ :: _) _) _ _ _); (with_reducible refine any_tk ?_); intro _) | ((with_reducible show KdnMade _ _ _ _ _ _ _); k_dflt (k_here; k_dflt (refine' d_made_one ?F ?N ?l ?lo ?hd ?_; (case F => k_asm); (case N => k_asm); (case l => assumption); (case lo => assumption); (case hd => assumption)); intro _ _ _ _ _)) | ((with_reducible show wpAny _ _ (eval (PySem.Expr.Dict _ _ _) _) _ _ _); k_dflt (k_here; (with_reducible show wpAny _ _ (eval (Expr.Dict (_ :: _) _ _) _) _ _ _); k_dflt (refine' kdn_eval (knd := PySem.intKind _ _) ?F ?N ?b ?a ?l ?e ?n ?_; (case F => k_asm); (case N => k_asm); (case b => exact Top.nolimit (by k_asm)); (case a => rfl); (case l => rfl); (case e => exact List.cons_ne_nil _ _); (case n => exact Nat.le_of_ble_eq_true rfl)); intro _ _ _ _ _ _ _ _)) | ((with_reducible show wpAny _ _ (call _ _) _ _ _); (first | ((with_reducible show wpAny _ _ (call (Value.ref _) _) _ _ _); k_dflt ((with_reducible show wpAny _ _ (call (Value.ref 49) [Value.ref _, Value.ref _]) _ _ _); k_here; k_dflt (refine' Con.use ?k1 ?k2 ?k3 ?k4 ?k5 ?kK (callers_con _ _ _ _ _ _ _ _ _ _ ?q1 ?q2 ?q3 ?q4) ?kd ?ku ?kp ?_; (case k1 => k_asm); (case k2 => k_asm); (case k3 => k_asm); (case k4 => k_asm); (case k5 => k_asm); (case kK => first | exact rfl | assumption); (case q1 => assumption); (case q2 => assumption); (case q3 => assumption); (case q4 => (simp; done)); (case kp => exact And.intro (by k_mem) (by k_mem)); (case kd => ktr_room); (case ku => ktr_units); k_whole); refine el_dict ?_; intro _ _ _ _ _ N9 _ _; (dsimp only [List.cons_append, List.nil_append] at N9); (try k_fold))) | ((with_reducible show wpAny _ _ (call (Value.ref _) _) _ _ _); k_dflt ((with_reducible show wpAny _ _ (call (Value.ref 98) [Value.ref _]) _ _ _); k_here; k_dflt (refine' Con.use ?k1 ?k2 ?k3 ?k4 ?k5 ?kK (colour_con _ _ _ _ _ _ _ _ _ _ ?ok) ?kd ?ku (stat_mono ?p1 ?p2) ?_; (case k1 => k_asm); (case k2 => k_asm); (case k3 => k_asm); (case k4 => k_asm); (case k5 => k_asm); (case kK => first | exact rfl | assumption); (case p1 => assumption); (case p2 => first | exact sub2 (by k_mem) (by k_mem) | (intro _ _; k_mem)); (case ok => assumption); (case kd => ktr_room); (case ku => ktr_units); k_whole); refine el_tup ?_; intro _ _ _ _ _ _ _ N9 _; (dsimp only [List.cons_append, List.nil_append] at N9); (try k_fold))) | ((with_reducible show wpAny _ _ (call (Value.builtin "dict.values") _) _ _ _); k_dflt (k_here; k_dflt (refine' d_values_call ?F ?N ?m ?D ?_; (case F => k_asm); (case N => k_asm); (case D => assumption); (case m => k_mem)); intro _ _ _ _ _ _ _)) | ((with_reducible show wpAny _ _ (call (Value.ref _) _) _ _ _); k_dflt ((with_reducible show wpAny _ _ (call (Value.ref 42) [Value.ref _, Value.ref _]) _ _ _); k_here; k_dflt (refine' Con.use ?k1 ?k2 ?k3 ?k4 ?k5 ?kK (stats_con _ _ _ _ _ _ _ _ _ _ _ _ _ _ _ _ ?q1 ?q2) ?kd ?ku (And.intro (stat_mono ?p1 ?p2) (stat_mono ?p3 ?p4)) ?_; (case k1 => k_asm); (case k2 => k_asm); (case k3 => k_asm); (case k4 => k_asm); (case k5 => k_asm); (case kK => first | exact rfl | assumption); (case p1 => assumption); (case p3 => assumption); (case p2 => first | exact sub2 (by k_mem) (by k_mem) | (intro p9 hp9; k_mem)); (case p4 => first | exact sub2 (by k_mem) (by k_mem) | (intro _ _; k_mem)); (case q1 => first | assumption | exact mix2_len _ _ | exact mix3_len _ _ _ | (simp; done)); (case q2 => first | assumption | (simp; done)); (case kd => ktr_room); (case ku => ktr_units); k_whole); refine el_stat ?_; intro _ _ _ _ _ _ _ _ _ _ N9 _ _ _; (dsimp only [List.cons_append, List.nil_append] at N9); (try k_fold))) | ((with_reducible show wpAny _ _ (call (Value.ref _) _) _ _ _); k_dflt ((with_reducible show wpAny _ _ (call (Value.ref 63) [Value.int _ _, Value.int _ _]) _ _ _); k_here; k_dflt (refine' Con.use ?k1 ?k2 ?k3 ?k4 ?k5 ?kK (spot_con _ _ _ _ _ _ _ _ ?hok) ?kd ?ku ?kp ?_; (case k1 => k_asm); (case k2 => k_asm); (case k3 => k_asm); (case k4 => k_asm); (case k5 => k_asm); (case kK => first | exact rfl | assumption); (case kp => trivial); (case kd => ktr_room); (case ku => ktr_units); (case hok => exact spot_ok (by first | exact fourth_b (by with_reducible assumption) (by with_reducible assumption) (by with_reducible assumption) | omega) (by omega) (by assumption)); k_whole); refine el_int ?_; intro _ _ _ _ N9 _; (dsimp only [List.cons_append, List.nil_append] at N9); (try k_fold))))) | ((with_reducible show wpAny _ _ (getMethod (Value.ref _) _ _) _ _ _); k_dflt (k_here; k_dflt (refine' d_method ?i ?N ?m ?D ?_; (case i => exact rfl); (case N => k_asm); (case D => assumption); (case m => k_mem)))) | ((with_reducible show wpAny _ _ (exec (PySem.Stmt.For (PySem.Expr.Name _ _) (PySem.Expr.Call _ _ _ _) _ _ _) _) _ _ _); k_dflt (k_here; (with_reducible show wpAny _ _ (exec (Stmt.For (Expr.Name _ _) (Expr.Call _ _ _ _) _ _ _) _) _ _ _); (rename Fr _ _ _ _ => F9); k_dflt (refine for_m F9 (by rfl) (by rfl) ?_))) | ((with_reducible show wpAny _ _ (subscriptTail _ _ _ _) _ _ _); (first | ((with_reducible show wpAny _ _ (subscriptTail (PySem.Expr.Name _ _) (PySem.Expr.Constant _ _ _) (Value.ref _) (Value.int _ _)) _ _ _); k_dflt (k_here; (with_reducible show wpAny _ _ (subscriptTail _ _ (Value.ref _) (Value.int _ _)) _ _ _); (refine' tup_item ?N ?hm ?h0 ?h1 ?hj ?hx ?_; (case N => k_asm); (case hm => k_mem); (case h0 => decide); (case h1 => decide); (case hj => rfl); (case hx => rfl)))) | ((with_reducible show wpAny _ _ (subscriptTail (PySem.Expr.Name _ _) (PySem.Expr.BinOp _ _ _ _) (Value.ref _) (Value.int _ _)) _ _ _); k_dflt (k_here; (with_reducible show wpAny _ _ (subscriptTail _ _ (Value.ref _) (Value.int _ _)) _ _ _); k_dflt (refine' list_item ?N ?hm ?h0 ?h1 ?hx ?_; (case N => k_asm); (case hm => k_mem); (case hx => assumption); (case h0 => omega); (case h1 => omega)))) | ((with_reducible show wpAny _ _ (subscriptTail (PySem.Expr.Name _ _) (PySem.Expr.Name _ _) (Value.ref _) (Value.int _ _)) _ _ _); k_dflt (k_here; (with_reducible show wpAny _ _ (subscriptTail _ _ (Value.ref _) (Value.int _ _)) _ _ _); k_dflt (refine' list_item ?N ?hm ?h0 ?h1 ?hx ?_; (case N => k_asm); (case hm => k_mem); (case hx => assumption); (case h0 => omega); (case h1 => omega)))))) | walk1 | (dsimp only; walk1) | (leave1; walk_say "STEP leave1"; try dsimp only) | fail "no step"))
        · (rename Fr _ _ _ _ => F8)
          (rename News _ _ _ _ => N8)
          (rename Heap.IsValuesView _ _ _ => V8)
          (rename DAt _ _ _ (addC (addC (addC _ _) _) _) => hDm)
          (rename (_ ≤ topF _ _ _) => hge)
          have hkn := mixK_at hDm
          k_dflt (refine' d_values_m (J := JI (Str.ofString "many") (Str.ofString "orders") _ _ (fun t => ordT (mixK (0 + (i : Int)) (0 + (i : Int) + (i2 : Int)) (0 + (i : Int) + (i2 : Int) + (i3 : Int)) (topF stops goal (0 + (i : Int) + (0 + (i : Int) + (i2 : Int)) + (0 + (i : Int) + (i2 : Int) + (i3 : Int))))) t)) ?dhh V8 F8 (news_drop N8) ?dhm hkn (JI.start ?dz ?dn) ?dstep ?ddone)
          (case dhh => exact rfl)
          (case dhm => k_dflt k_mem)
          (case dz => exact rfl)
          (case dn => decide)
          · rintro q kk y ty itv m₄ news₄ h6 tk6 own4 hq ⟨u4, t4, rfl, rfl⟩ hnw4 hown4 F9 N9
            (try ((with_reducible show wpAny _ _ _ _ _ _); k_fold)); (try (with_reducible refine any_tk ?_; intro _))
            clear F8 N8
            have hy := mixK_vals (by omega) (by omega) hge hq
            rcases hy with rfl | rfl | rfl | rfl
            all_goals ((try ((with_reducible show wpAny _ _ _ _ _ _); k_fold)); (try (with_reducible refine any_tk ?_; intro _)); (repeat' (first | (k_unfold; (try dsimp only)) | (k_end; wrow_close) | ((with_reducible show wpAny _ _ (execs (_ :: _) _) _ _ _); (with_reducible refine any_tk ?_); intro _) | ((with_reducible show KdnMade _ _ _ _ _ _ _); k_dflt (k_here; k_dflt (refine' d_made_one ?F ?N ?l ?lo ?hd ?_; (case F => k_asm); (case N => k_asm); (case l => assumption); (case lo => assumption); (case hd => assumption)); intro _ _ _ _ _)) | ((with_reducible show wpAny _ _ (eval (PySem.Expr.Dict _ _ _) _) _ _ _); k_dflt (k_here; (with_reducible show wpAny _ _ (eval (Expr.Dict (_ :: _) _ _) _) _ _ _); k_dflt (refine' kdn_eval (knd := PySem.intKind _ _) ?F ?N ?b ?a ?l ?e ?n ?_; (case F => k_asm); (case N => k_asm); (case b => exact Top.nolimit (by k_asm)); (case a => rfl); (case l => rfl); (case e => exact List.cons_ne_nil _ _); (case n => exact Nat.le_of_ble_eq_true rfl)); intro _ _ _ _ _ _ _ _)) | ((with_reducible show wpAny _ _ (call _ _) _ _ _); (first | ((with_reducible show wpAny _ _ (call (Value.ref _) _) _ _ _); k_dflt ((with_reducible show wpAny _ _ (call (Value.ref 49) [Value.ref _, Value.ref _]) _ _ _); k_here; k_dflt (refine' Con.use ?k1 ?k2 ?k3 ?k4 ?k5 ?kK (callers_con _ _ _ _ _ _ _ _ _ _ ?q1 ?q2 ?q3 ?q4) ?kd ?ku ?kp ?_; (case k1 => k_asm); (case k2 => k_asm); (case k3 => k_asm); (case k4 => k_asm); (case k5 => k_asm); (case kK => first | exact rfl | assumption); (case q1 => assumption); (case q2 => assumption); (case q3 => assumption); (case q4 => (simp; done)); (case kp => exact And.intro (by k_mem) (by k_mem)); (case kd => ktr_room); (case ku => ktr_units); k_whole); refine el_dict ?_; intro _ _ _ _ _ N9 _ _; (dsimp only [List.cons_append, List.nil_append] at N9); (try k_fold))) | ((with_reducible show wpAny _ _ (call (Value.ref _) _) _ _ _); k_dflt ((with_reducible show wpAny _ _ (call (Value.ref 98) [Value.ref _]) _ _ _); k_here; k_dflt (refine' Con.use ?k1 ?k2 ?k3 ?k4 ?k5 ?kK (colour_con _ _ _ _ _ _ _ _ _ _ ?ok) ?kd ?ku (stat_mono ?p1 ?p2) ?_; (case k1 => k_asm); (case k2 => k_asm); (case k3 => k_asm); (case k4 => k_asm); (case k5 => k_asm); (case kK => first | exact rfl | assumption); (case p1 => assumption); (case p2 => first | exact sub2 (by k_mem) (by k_mem) | (intro _ _; k_mem)); (case ok => assumption); (case kd => ktr_room); (case ku => ktr_units); k_whole); refine el_tup ?_; intro _ _ _ _ _ _ _ N9 _; (dsimp only [List.cons_append, List.nil_append] at N9); (try k_fold))) | ((with_reducible show wpAny _ _ (call (Value.builtin "dict.values") _) _ _ _); k_dflt (k_here; k_dflt (refine' d_values_call ?F ?N ?m ?D ?_; (case F => k_asm); (case N => k_asm); (case D => assumption); (case m => k_mem)); intro _ _ _ _ _ _ _)) | ((with_reducible show wpAny _ _ (call (Value.ref _) _) _ _ _); k_dflt ((with_reducible show wpAny _ _ (call (Value.ref 42) [Value.ref _, Value.ref _]) _ _ _); k_here; k_dflt (refine' Con.use ?k1 ?k2 ?k3 ?k4 ?k5 ?kK (stats_con _ _ _ _ _ _ _ _ _ _ _ _ _ _ _ _ ?q1 ?q2) ?kd ?ku (And.intro (stat_mono ?p1 ?p2) (stat_mono ?p3 ?p4)) ?_; (case k1 => k_asm); (case k2 => k_asm); (case k3 => k_asm); (case k4 => k_asm); (case k5 => k_asm); (case kK => first | exact rfl | assumption); (case p1 => assumption); (case p3 => assumption); (case p2 => first | exact sub2 (by k_mem) (by k_mem) | (intro p9 hp9; k_mem)); (case p4 => first | exact sub2 (by k_mem) (by k_mem) | (intro _ _; k_mem)); (case q1 => first | assumption | exact mix2_len _ _ | exact mix3_len _ _ _ | (simp; done)); (case q2 => first | assumption | (simp; done)); (case kd => ktr_room); (case ku => ktr_units); k_whole); refine el_stat ?_; intro _ _ _ _ _ _ _ _ _ _ N9 _ _ _; (dsimp only [List.cons_append, List.nil_append] at N9); (try k_fold))) | ((with_reducible show wpAny _ _ (call (Value.ref _) _) _ _ _); k_dflt ((with_reducible show wpAny _ _ (call (Value.ref 63) [Value.int _ _, Value.int _ _]) _ _ _); k_here; k_dflt (refine' Con.use ?k1 ?k2 ?k3 ?k4 ?k5 ?kK (spot_con _ _ _ _ _ _ _ _ ?hok) ?kd ?ku ?kp ?_; (case k1 => k_asm); (case k2 => k_asm); (case k3 => k_asm); (case k4 => k_asm); (case k5 => k_asm); (case kK => first | exact rfl | assumption); (case kp => trivial); (case kd => ktr_room); (case ku => ktr_units); (case hok => exact spot_ok (by first | exact fourth_b (by with_reducible assumption) (by with_reducible assumption) (by with_reducible assumption) | omega) (by omega) (by assumption)); k_whole); refine el_int ?_; intro _ _ _ _ N9 _; (dsimp only [List.cons_append, List.nil_append] at N9); (try k_fold))))) | ((with_reducible show wpAny _ _ (getMethod (Value.ref _) _ _) _ _ _); k_dflt (k_here; k_dflt (refine' d_method ?i ?N ?m ?D ?_; (case i => exact rfl); (case N => k_asm); (case D => assumption); (case m => k_mem)))) | ((with_reducible show wpAny _ _ (exec (PySem.Stmt.For (PySem.Expr.Name _ _) (PySem.Expr.Call _ _ _ _) _ _ _) _) _ _ _); k_dflt (k_here; (with_reducible show wpAny _ _ (exec (Stmt.For (Expr.Name _ _) (Expr.Call _ _ _ _) _ _ _) _) _ _ _); (rename Fr _ _ _ _ => F9); k_dflt (refine for_m F9 (by rfl) (by rfl) ?_))) | ((with_reducible show wpAny _ _ (subscriptTail _ _ _ _) _ _ _); (first | ((with_reducible show wpAny _ _ (subscriptTail (PySem.Expr.Name _ _) (PySem.Expr.Constant _ _ _) (Value.ref _) (Value.int _ _)) _ _ _); k_dflt (k_here; (with_reducible show wpAny _ _ (subscriptTail _ _ (Value.ref _) (Value.int _ _)) _ _ _); (refine' tup_item ?N ?hm ?h0 ?h1 ?hj ?hx ?_; (case N => k_asm); (case hm => k_mem); (case h0 => decide); (case h1 => decide); (case hj => rfl); (case hx => rfl)))) | ((with_reducible show wpAny _ _ (subscriptTail (PySem.Expr.Name _ _) (PySem.Expr.BinOp _ _ _ _) (Value.ref _) (Value.int _ _)) _ _ _); k_dflt (k_here; (with_reducible show wpAny _ _ (subscriptTail _ _ (Value.ref _) (Value.int _ _)) _ _ _); k_dflt (refine' list_item ?N ?hm ?h0 ?h1 ?hx ?_; (case N => k_asm); (case hm => k_mem); (case hx => assumption); (case h0 => omega); (case h1 => omega)))) | ((with_reducible show wpAny _ _ (subscriptTail (PySem.Expr.Name _ _) (PySem.Expr.Name _ _) (Value.ref _) (Value.int _ _)) _ _ _); k_dflt (k_here; (with_reducible show wpAny _ _ (subscriptTail _ _ (Value.ref _) (Value.int _ _)) _ _ _); k_dflt (refine' list_item ?N ?hm ?h0 ?h1 ?hx ?_; (case N => k_asm); (case hm => k_mem); (case hx => assumption); (case h0 => omega); (case h1 => omega)))))) | walk1 | (dsimp only; walk1) | (leave1; walk_say "STEP leave1"; try dsimp only) | fail "no step")); exact ji_step (by assumption) (news_drop (by assumption)) hnw4 (by decide) (ordT_succ hq))
          · rintro h6 tk6 m₄ n₄ F9 N9 ⟨u4, t4, rfl, rfl⟩
            (try ((with_reducible show wpAny _ _ _ _ _ _); k_fold)); (try (with_reducible refine any_tk ?_; intro _))
            dsimp only at F9
            rw [ordT_all] at F9
            clear F8 N8
            (try ((with_reducible show wpAny _ _ _ _ _ _); k_fold)); (try (with_reducible refine any_tk ?_; intro _)); (repeat' (first | (k_unfold; (try dsimp only)) | (k_end; wrow_close) | ((with_reducible show wpAny _ _ (execs (_ :: _) _) _ _ _); (with_reducible refine any_tk ?_); intro _) | ((with_reducible show KdnMade _ _ _ _ _ _ _); k_dflt (k_here; k_dflt (refine' d_made_one ?F ?N ?l ?lo ?hd ?_; (case F => k_asm); (case N => k_asm); (case l => assumption); (case lo => assumption); (case hd => assumption)); intro _ _ _ _ _)) | ((with_reducible show wpAny _ _ (eval (PySem.Expr.Dict _ _ _) _) _ _ _); k_dflt (k_here; (with_reducible show wpAny _ _ (eval (Expr.Dict (_ :: _) _ _) _) _ _ _); k_dflt (refine' kdn_eval (knd := PySem.intKind _ _) ?F ?N ?b ?a ?l ?e ?n ?_; (case F => k_asm); (case N => k_asm); (case b => exact Top.nolimit (by k_asm)); (case a => rfl); (case l => rfl); (case e => exact List.cons_ne_nil _ _); (case n => exact Nat.le_of_ble_eq_true rfl)); intro _ _ _ _ _ _ _ _)) | ((with_reducible show wpAny _ _ (call _ _) _ _ _); (first | ((with_reducible show wpAny _ _ (call (Value.ref _) _) _ _ _); k_dflt ((with_reducible show wpAny _ _ (call (Value.ref 49) [Value.ref _, Value.ref _]) _ _ _); k_here; k_dflt (refine' Con.use ?k1 ?k2 ?k3 ?k4 ?k5 ?kK (callers_con _ _ _ _ _ _ _ _ _ _ ?q1 ?q2 ?q3 ?q4) ?kd ?ku ?kp ?_; (case k1 => k_asm); (case k2 => k_asm); (case k3 => k_asm); (case k4 => k_asm); (case k5 => k_asm); (case kK => first | exact rfl | assumption); (case q1 => assumption); (case q2 => assumption); (case q3 => assumption); (case q4 => (simp; done)); (case kp => exact And.intro (by k_mem) (by k_mem)); (case kd => ktr_room); (case ku => ktr_units); k_whole); refine el_dict ?_; intro _ _ _ _ _ N9 _ _; (dsimp only [List.cons_append, List.nil_append] at N9); (try k_fold))) | ((with_reducible show wpAny _ _ (call (Value.ref _) _) _ _ _); k_dflt ((with_reducible show wpAny _ _ (call (Value.ref 98) [Value.ref _]) _ _ _); k_here; k_dflt (refine' Con.use ?k1 ?k2 ?k3 ?k4 ?k5 ?kK (colour_con _ _ _ _ _ _ _ _ _ _ ?ok) ?kd ?ku (stat_mono ?p1 ?p2) ?_; (case k1 => k_asm); (case k2 => k_asm); (case k3 => k_asm); (case k4 => k_asm); (case k5 => k_asm); (case kK => first | exact rfl | assumption); (case p1 => assumption); (case p2 => first | exact sub2 (by k_mem) (by k_mem) | (intro _ _; k_mem)); (case ok => assumption); (case kd => ktr_room); (case ku => ktr_units); k_whole); refine el_tup ?_; intro _ _ _ _ _ _ _ N9 _; (dsimp only [List.cons_append, List.nil_append] at N9); (try k_fold))) | ((with_reducible show wpAny _ _ (call (Value.builtin "dict.values") _) _ _ _); k_dflt (k_here; k_dflt (refine' d_values_call ?F ?N ?m ?D ?_; (case F => k_asm); (case N => k_asm); (case D => assumption); (case m => k_mem)); intro _ _ _ _ _ _ _)) | ((with_reducible show wpAny _ _ (call (Value.ref _) _) _ _ _); k_dflt ((with_reducible show wpAny _ _ (call (Value.ref 42) [Value.ref _, Value.ref _]) _ _ _); k_here; k_dflt (refine' Con.use ?k1 ?k2 ?k3 ?k4 ?k5 ?kK (stats_con _ _ _ _ _ _ _ _ _ _ _ _ _ _ _ _ ?q1 ?q2) ?kd ?ku (And.intro (stat_mono ?p1 ?p2) (stat_mono ?p3 ?p4)) ?_; (case k1 => k_asm); (case k2 => k_asm); (case k3 => k_asm); (case k4 => k_asm); (case k5 => k_asm); (case kK => first | exact rfl | assumption); (case p1 => assumption); (case p3 => assumption); (case p2 => first | exact sub2 (by k_mem) (by k_mem) | (intro p9 hp9; k_mem)); (case p4 => first | exact sub2 (by k_mem) (by k_mem) | (intro _ _; k_mem)); (case q1 => first | assumption | exact mix2_len _ _ | exact mix3_len _ _ _ | (simp; done)); (case q2 => first | assumption | (simp; done)); (case kd => ktr_room); (case ku => ktr_units); k_whole); refine el_stat ?_; intro _ _ _ _ _ _ _ _ _ _ N9 _ _ _; (dsimp only [List.cons_append, List.nil_append] at N9); (try k_fold))) | ((with_reducible show wpAny _ _ (call (Value.ref _) _) _ _ _); k_dflt ((with_reducible show wpAny _ _ (call (Value.ref 63) [Value.int _ _, Value.int _ _]) _ _ _); k_here; k_dflt (refine' Con.use ?k1 ?k2 ?k3 ?k4 ?k5 ?kK (spot_con _ _ _ _ _ _ _ _ ?hok) ?kd ?ku ?kp ?_; (case k1 => k_asm); (case k2 => k_asm); (case k3 => k_asm); (case k4 => k_asm); (case k5 => k_asm); (case kK => first | exact rfl | assumption); (case kp => trivial); (case kd => ktr_room); (case ku => ktr_units); (case hok => exact spot_ok (by first | exact fourth_b (by with_reducible assumption) (by with_reducible assumption) (by with_reducible assumption) | omega) (by omega) (by assumption)); k_whole); refine el_int ?_; intro _ _ _ _ N9 _; (dsimp only [List.cons_append, List.nil_append] at N9); (try k_fold))))) | ((with_reducible show wpAny _ _ (getMethod (Value.ref _) _ _) _ _ _); k_dflt (k_here; k_dflt (refine' d_method ?i ?N ?m ?D ?_; (case i => exact rfl); (case N => k_asm); (case D => assumption); (case m => k_mem)))) | ((with_reducible show wpAny _ _ (exec (PySem.Stmt.For (PySem.Expr.Name _ _) (PySem.Expr.Call _ _ _ _) _ _ _) _) _ _ _); k_dflt (k_here; (with_reducible show wpAny _ _ (exec (Stmt.For (Expr.Name _ _) (Expr.Call _ _ _ _) _ _ _) _) _ _ _); (rename Fr _ _ _ _ => F9); k_dflt (refine for_m F9 (by rfl) (by rfl) ?_))) | ((with_reducible show wpAny _ _ (subscriptTail _ _ _ _) _ _ _); (first | ((with_reducible show wpAny _ _ (subscriptTail (PySem.Expr.Name _ _) (PySem.Expr.Constant _ _ _) (Value.ref _) (Value.int _ _)) _ _ _); k_dflt (k_here; (with_reducible show wpAny _ _ (subscriptTail _ _ (Value.ref _) (Value.int _ _)) _ _ _); (refine' tup_item ?N ?hm ?h0 ?h1 ?hj ?hx ?_; (case N => k_asm); (case hm => k_mem); (case h0 => decide); (case h1 => decide); (case hj => rfl); (case hx => rfl)))) | ((with_reducible show wpAny _ _ (subscriptTail (PySem.Expr.Name _ _) (PySem.Expr.BinOp _ _ _ _) (Value.ref _) (Value.int _ _)) _ _ _); k_dflt (k_here; (with_reducible show wpAny _ _ (subscriptTail _ _ (Value.ref _) (Value.int _ _)) _ _ _); k_dflt (refine' list_item ?N ?hm ?h0 ?h1 ?hx ?_; (case N => k_asm); (case hm => k_mem); (case hx => assumption); (case h0 => omega); (case h1 => omega)))) | ((with_reducible show wpAny _ _ (subscriptTail (PySem.Expr.Name _ _) (PySem.Expr.Name _ _) (Value.ref _) (Value.int _ _)) _ _ _); k_dflt (k_here; (with_reducible show wpAny _ _ (subscriptTail _ _ (Value.ref _) (Value.int _ _)) _ _ _); k_dflt (refine' list_item ?N ?hm ?h0 ?h1 ?hx ?_; (case N => k_asm); (case hm => k_mem); (case hx => assumption); (case h0 => omega); (case h1 => omega)))))) | walk1 | (dsimp only; walk1) | (leave1; walk_say "STEP leave1"; try dsimp only) | fail "no step"))
            · exact (tf hmx.nan (by assumption)).elim
            · exact (tf hmx.inf (by assumption)).elim
            · (rename Fr _ _ _ _ => F10)
              (rename News _ _ _ _ => N10)
              (rename DAt _ _ _ (addC _ [(_, _)]) => D10)
              (rename (∀ q ∈ _, ∀ p ∈ [(_, _)], _ < _) => hord)
              have hlt := ord_of1 hord
              have hstep := (step_pos (ps := ps) (acc := loopF (rowH stops goal ps (0 + (i : Int))) (0 + (i : Int)) (loopF (rowM stops goal ps) 0 [] i) i2) hge).trans (congrArg (fun q => addC _ [q]) (quad_eq ps _ _ _ _))
              exact jt_end F10 (news_e0 N10 (fun p hp => by k_dflt k_mem) (by k_dflt k_mem) (fun p hp => by k_dflt k_mem)) hnw3 (gt_ne hlt (o := oi3) (by k_dflt k_mem)) ⟨⟨fun q hq => hlt q (by k_dflt k_mem), gt_ne hlt (o := oi1) (by k_dflt k_mem)⟩, gt_ne hlt (o := oi2) (by k_dflt k_mem)⟩ D10 hstep rfl
                (fun y h1 h2 => by obtain ⟨a1, a2, a3, a4, a5, a6, a7, a8⟩ := off_SH h2; simp only [if_neg h1, if_neg a1, if_neg a2, if_neg a3, if_neg a4, if_neg a5, if_neg a6, if_neg a7, if_neg a8, h2, Bool.false_eq_true, if_false])
        · (rename (¬ (_ ≤ topF _ _ _)) => hlt)
          exact jt_end (by assumption) (by assumption) hnw3 (ne_of_nw hnw3) ⟨⟨hl3, hne31⟩, hne32⟩ hD3 (step_neg hlt) rfl
            (fun y h1 h2 => by obtain ⟨a1, a2, a3, a4, a5, a6, a7, a8⟩ := off_SH h2; simp only [if_neg h1, if_neg a1, if_neg a2, if_neg a3, if_neg a4, if_neg a5, if_neg a6, if_neg a7, if_neg a8, h2, Bool.false_eq_true, if_false])
      · rintro h6 tk6 m₄ n₄ F9 N9 ⟨u4, d4, o4, rfl, rfl, ⟨⟨hl4, hn4⟩, hm4⟩, hD4⟩
        (try ((with_reducible show wpAny _ _ _ _ _ _); k_fold)); (try (with_reducible refine any_tk ?_; intro _))
        dsimp only at F9
        clear F6 N6
        (try ((with_reducible show wpAny _ _ _ _ _ _); k_fold)); (try (with_reducible refine any_tk ?_; intro _)); (repeat' (first | (k_unfold; (try dsimp only)) | (k_end; wrow_close) | ((with_reducible show wpAny _ _ (execs (_ :: _) _) _ _ _); (with_reducible refine any_tk ?_); intro _) | ((with_reducible show KdnMade _ _ _ _ _ _ _); k_dflt (k_here; k_dflt (refine' d_made_one ?F ?N ?l ?lo ?hd ?_; (case F => k_asm); (case N => k_asm); (case l => assumption); (case lo => assumption); (case hd => assumption)); intro _ _ _ _ _)) | ((with_reducible show wpAny _ _ (eval (PySem.Expr.Dict _ _ _) _) _ _ _); k_dflt (k_here; (with_reducible show wpAny _ _ (eval (Expr.Dict (_ :: _) _ _) _) _ _ _); k_dflt (refine' kdn_eval (knd := PySem.intKind _ _) ?F ?N ?b ?a ?l ?e ?n ?_; (case F => k_asm); (case N => k_asm); (case b => exact Top.nolimit (by k_asm)); (case a => rfl); (case l => rfl); (case e => exact List.cons_ne_nil _ _); (case n => exact Nat.le_of_ble_eq_true rfl)); intro _ _ _ _ _ _ _ _)) | ((with_reducible show wpAny _ _ (call _ _) _ _ _); (first | ((with_reducible show wpAny _ _ (call (Value.ref _) _) _ _ _); k_dflt ((with_reducible show wpAny _ _ (call (Value.ref 49) [Value.ref _, Value.ref _]) _ _ _); k_here; k_dflt (refine' Con.use ?k1 ?k2 ?k3 ?k4 ?k5 ?kK (callers_con _ _ _ _ _ _ _ _ _ _ ?q1 ?q2 ?q3 ?q4) ?kd ?ku ?kp ?_; (case k1 => k_asm); (case k2 => k_asm); (case k3 => k_asm); (case k4 => k_asm); (case k5 => k_asm); (case kK => first | exact rfl | assumption); (case q1 => assumption); (case q2 => assumption); (case q3 => assumption); (case q4 => (simp; done)); (case kp => exact And.intro (by k_mem) (by k_mem)); (case kd => ktr_room); (case ku => ktr_units); k_whole); refine el_dict ?_; intro _ _ _ _ _ N9 _ _; (dsimp only [List.cons_append, List.nil_append] at N9); (try k_fold))) | ((with_reducible show wpAny _ _ (call (Value.ref _) _) _ _ _); k_dflt ((with_reducible show wpAny _ _ (call (Value.ref 98) [Value.ref _]) _ _ _); k_here; k_dflt (refine' Con.use ?k1 ?k2 ?k3 ?k4 ?k5 ?kK (colour_con _ _ _ _ _ _ _ _ _ _ ?ok) ?kd ?ku (stat_mono ?p1 ?p2) ?_; (case k1 => k_asm); (case k2 => k_asm); (case k3 => k_asm); (case k4 => k_asm); (case k5 => k_asm); (case kK => first | exact rfl | assumption); (case p1 => assumption); (case p2 => first | exact sub2 (by k_mem) (by k_mem) | (intro _ _; k_mem)); (case ok => assumption); (case kd => ktr_room); (case ku => ktr_units); k_whole); refine el_tup ?_; intro _ _ _ _ _ _ _ N9 _; (dsimp only [List.cons_append, List.nil_append] at N9); (try k_fold))) | ((with_reducible show wpAny _ _ (call (Value.builtin "dict.values") _) _ _ _); k_dflt (k_here; k_dflt (refine' d_values_call ?F ?N ?m ?D ?_; (case F => k_asm); (case N => k_asm); (case D => assumption); (case m => k_mem)); intro _ _ _ _ _ _ _)) | ((with_reducible show wpAny _ _ (call (Value.ref _) _) _ _ _); k_dflt ((with_reducible show wpAny _ _ (call (Value.ref 42) [Value.ref _, Value.ref _]) _ _ _); k_here; k_dflt (refine' Con.use ?k1 ?k2 ?k3 ?k4 ?k5 ?kK (stats_con _ _ _ _ _ _ _ _ _ _ _ _ _ _ _ _ ?q1 ?q2) ?kd ?ku (And.intro (stat_mono ?p1 ?p2) (stat_mono ?p3 ?p4)) ?_; (case k1 => k_asm); (case k2 => k_asm); (case k3 => k_asm); (case k4 => k_asm); (case k5 => k_asm); (case kK => first | exact rfl | assumption); (case p1 => assumption); (case p3 => assumption); (case p2 => first | exact sub2 (by k_mem) (by k_mem) | (intro p9 hp9; k_mem)); (case p4 => first | exact sub2 (by k_mem) (by k_mem) | (intro _ _; k_mem)); (case q1 => first | assumption | exact mix2_len _ _ | exact mix3_len _ _ _ | (simp; done)); (case q2 => first | assumption | (simp; done)); (case kd => ktr_room); (case ku => ktr_units); k_whole); refine el_stat ?_; intro _ _ _ _ _ _ _ _ _ _ N9 _ _ _; (dsimp only [List.cons_append, List.nil_append] at N9); (try k_fold))) | ((with_reducible show wpAny _ _ (call (Value.ref _) _) _ _ _); k_dflt ((with_reducible show wpAny _ _ (call (Value.ref 63) [Value.int _ _, Value.int _ _]) _ _ _); k_here; k_dflt (refine' Con.use ?k1 ?k2 ?k3 ?k4 ?k5 ?kK (spot_con _ _ _ _ _ _ _ _ ?hok) ?kd ?ku ?kp ?_; (case k1 => k_asm); (case k2 => k_asm); (case k3 => k_asm); (case k4 => k_asm); (case k5 => k_asm); (case kK => first | exact rfl | assumption); (case kp => trivial); (case kd => ktr_room); (case ku => ktr_units); (case hok => exact spot_ok (by first | exact fourth_b (by with_reducible assumption) (by with_reducible assumption) (by with_reducible assumption) | omega) (by omega) (by assumption)); k_whole); refine el_int ?_; intro _ _ _ _ N9 _; (dsimp only [List.cons_append, List.nil_append] at N9); (try k_fold))))) | ((with_reducible show wpAny _ _ (getMethod (Value.ref _) _ _) _ _ _); k_dflt (k_here; k_dflt (refine' d_method ?i ?N ?m ?D ?_; (case i => exact rfl); (case N => k_asm); (case D => assumption); (case m => k_mem)))) | ((with_reducible show wpAny _ _ (exec (PySem.Stmt.For (PySem.Expr.Name _ _) (PySem.Expr.Call _ _ _ _) _ _ _) _) _ _ _); k_dflt (k_here; (with_reducible show wpAny _ _ (exec (Stmt.For (Expr.Name _ _) (Expr.Call _ _ _ _) _ _ _) _) _ _ _); (rename Fr _ _ _ _ => F9); k_dflt (refine for_m F9 (by rfl) (by rfl) ?_))) | ((with_reducible show wpAny _ _ (subscriptTail _ _ _ _) _ _ _); (first | ((with_reducible show wpAny _ _ (subscriptTail (PySem.Expr.Name _ _) (PySem.Expr.Constant _ _ _) (Value.ref _) (Value.int _ _)) _ _ _); k_dflt (k_here; (with_reducible show wpAny _ _ (subscriptTail _ _ (Value.ref _) (Value.int _ _)) _ _ _); (refine' tup_item ?N ?hm ?h0 ?h1 ?hj ?hx ?_; (case N => k_asm); (case hm => k_mem); (case h0 => decide); (case h1 => decide); (case hj => rfl); (case hx => rfl)))) | ((with_reducible show wpAny _ _ (subscriptTail (PySem.Expr.Name _ _) (PySem.Expr.BinOp _ _ _ _) (Value.ref _) (Value.int _ _)) _ _ _); k_dflt (k_here; (with_reducible show wpAny _ _ (subscriptTail _ _ (Value.ref _) (Value.int _ _)) _ _ _); k_dflt (refine' list_item ?N ?hm ?h0 ?h1 ?hx ?_; (case N => k_asm); (case hm => k_mem); (case hx => assumption); (case h0 => omega); (case h1 => omega)))) | ((with_reducible show wpAny _ _ (subscriptTail (PySem.Expr.Name _ _) (PySem.Expr.Name _ _) (Value.ref _) (Value.int _ _)) _ _ _); k_dflt (k_here; (with_reducible show wpAny _ _ (subscriptTail _ _ (Value.ref _) (Value.int _ _)) _ _ _); k_dflt (refine' list_item ?N ?hm ?h0 ?h1 ?hx ?_; (case N => k_asm); (case hm => k_mem); (case hx => assumption); (case h0 => omega); (case h1 => omega)))))) | walk1 | (dsimp only; walk1) | (leave1; walk_say "STEP leave1"; try dsimp only) | fail "no step"))
        exact jt_end (by assumption) (news_e2 (by assumption)) hnw2 hm4 ⟨hl4, hn4⟩ hD4 rfl rfl
          (fun y h1 h2 => by obtain ⟨a1, a2, a3⟩ := off_SM h2; simp only [if_neg h1, if_neg a1, if_neg a2, a3, Bool.false_eq_true, if_false, h2])
    · rintro h6 tk6 m₄ n₄ F9 N9 ⟨u4, d4, o4, rfl, rfl, ⟨hl4, hn4⟩, hD4⟩
      (try ((with_reducible show wpAny _ _ _ _ _ _); k_fold)); (try (with_reducible refine any_tk ?_; intro _))
      dsimp only at F9
      clear F2 N2
      (try ((with_reducible show wpAny _ _ _ _ _ _); k_fold)); (try (with_reducible refine any_tk ?_; intro _)); (repeat' (first | (k_unfold; (try dsimp only)) | (k_end; wrow_close) | ((with_reducible show wpAny _ _ (execs (_ :: _) _) _ _ _); (with_reducible refine any_tk ?_); intro _) | ((with_reducible show KdnMade _ _ _ _ _ _ _); k_dflt (k_here; k_dflt (refine' d_made_one ?F ?N ?l ?lo ?hd ?_; (case F => k_asm); (case N => k_asm); (case l => assumption); (case lo => assumption); (case hd => assumption)); intro _ _ _ _ _)) | ((with_reducible show wpAny _ _ (eval (PySem.Expr.Dict _ _ _) _) _ _ _); k_dflt (k_here; (with_reducible show wpAny _ _ (eval (Expr.Dict (_ :: _) _ _) _) _ _ _); k_dflt (refine' kdn_eval (knd := PySem.intKind _ _) ?F ?N ?b ?a ?l ?e ?n ?_; (case F => k_asm); (case N => k_asm); (case b => exact Top.nolimit (by k_asm)); (case a => rfl); (case l => rfl); (case e => exact List.cons_ne_nil _ _); (case n => exact Nat.le_of_ble_eq_true rfl)); intro _ _ _ _ _ _ _ _)) | ((with_reducible show wpAny _ _ (call _ _) _ _ _); (first | ((with_reducible show wpAny _ _ (call (Value.ref _) _) _ _ _); k_dflt ((with_reducible show wpAny _ _ (call (Value.ref 49) [Value.ref _, Value.ref _]) _ _ _); k_here; k_dflt (refine' Con.use ?k1 ?k2 ?k3 ?k4 ?k5 ?kK (callers_con _ _ _ _ _ _ _ _ _ _ ?q1 ?q2 ?q3 ?q4) ?kd ?ku ?kp ?_; (case k1 => k_asm); (case k2 => k_asm); (case k3 => k_asm); (case k4 => k_asm); (case k5 => k_asm); (case kK => first | exact rfl | assumption); (case q1 => assumption); (case q2 => assumption); (case q3 => assumption); (case q4 => (simp; done)); (case kp => exact And.intro (by k_mem) (by k_mem)); (case kd => ktr_room); (case ku => ktr_units); k_whole); refine el_dict ?_; intro _ _ _ _ _ N9 _ _; (dsimp only [List.cons_append, List.nil_append] at N9); (try k_fold))) | ((with_reducible show wpAny _ _ (call (Value.ref _) _) _ _ _); k_dflt ((with_reducible show wpAny _ _ (call (Value.ref 98) [Value.ref _]) _ _ _); k_here; k_dflt (refine' Con.use ?k1 ?k2 ?k3 ?k4 ?k5 ?kK (colour_con _ _ _ _ _ _ _ _ _ _ ?ok) ?kd ?ku (stat_mono ?p1 ?p2) ?_; (case k1 => k_asm); (case k2 => k_asm); (case k3 => k_asm); (case k4 => k_asm); (case k5 => k_asm); (case kK => first | exact rfl | assumption); (case p1 => assumption); (case p2 => first | exact sub2 (by k_mem) (by k_mem) | (intro _ _; k_mem)); (case ok => assumption); (case kd => ktr_room); (case ku => ktr_units); k_whole); refine el_tup ?_; intro _ _ _ _ _ _ _ N9 _; (dsimp only [List.cons_append, List.nil_append] at N9); (try k_fold))) | ((with_reducible show wpAny _ _ (call (Value.builtin "dict.values") _) _ _ _); k_dflt (k_here; k_dflt (refine' d_values_call ?F ?N ?m ?D ?_; (case F => k_asm); (case N => k_asm); (case D => assumption); (case m => k_mem)); intro _ _ _ _ _ _ _)) | ((with_reducible show wpAny _ _ (call (Value.ref _) _) _ _ _); k_dflt ((with_reducible show wpAny _ _ (call (Value.ref 42) [Value.ref _, Value.ref _]) _ _ _); k_here; k_dflt (refine' Con.use ?k1 ?k2 ?k3 ?k4 ?k5 ?kK (stats_con _ _ _ _ _ _ _ _ _ _ _ _ _ _ _ _ ?q1 ?q2) ?kd ?ku (And.intro (stat_mono ?p1 ?p2) (stat_mono ?p3 ?p4)) ?_; (case k1 => k_asm); (case k2 => k_asm); (case k3 => k_asm); (case k4 => k_asm); (case k5 => k_asm); (case kK => first | exact rfl | assumption); (case p1 => assumption); (case p3 => assumption); (case p2 => first | exact sub2 (by k_mem) (by k_mem) | (intro p9 hp9; k_mem)); (case p4 => first | exact sub2 (by k_mem) (by k_mem) | (intro _ _; k_mem)); (case q1 => first | assumption | exact mix2_len _ _ | exact mix3_len _ _ _ | (simp; done)); (case q2 => first | assumption | (simp; done)); (case kd => ktr_room); (case ku => ktr_units); k_whole); refine el_stat ?_; intro _ _ _ _ _ _ _ _ _ _ N9 _ _ _; (dsimp only [List.cons_append, List.nil_append] at N9); (try k_fold))) | ((with_reducible show wpAny _ _ (call (Value.ref _) _) _ _ _); k_dflt ((with_reducible show wpAny _ _ (call (Value.ref 63) [Value.int _ _, Value.int _ _]) _ _ _); k_here; k_dflt (refine' Con.use ?k1 ?k2 ?k3 ?k4 ?k5 ?kK (spot_con _ _ _ _ _ _ _ _ ?hok) ?kd ?ku ?kp ?_; (case k1 => k_asm); (case k2 => k_asm); (case k3 => k_asm); (case k4 => k_asm); (case k5 => k_asm); (case kK => first | exact rfl | assumption); (case kp => trivial); (case kd => ktr_room); (case ku => ktr_units); (case hok => exact spot_ok (by first | exact fourth_b (by with_reducible assumption) (by with_reducible assumption) (by with_reducible assumption) | omega) (by omega) (by assumption)); k_whole); refine el_int ?_; intro _ _ _ _ N9 _; (dsimp only [List.cons_append, List.nil_append] at N9); (try k_fold))))) | ((with_reducible show wpAny _ _ (getMethod (Value.ref _) _ _) _ _ _); k_dflt (k_here; k_dflt (refine' d_method ?i ?N ?m ?D ?_; (case i => exact rfl); (case N => k_asm); (case D => assumption); (case m => k_mem)))) | ((with_reducible show wpAny _ _ (exec (PySem.Stmt.For (PySem.Expr.Name _ _) (PySem.Expr.Call _ _ _ _) _ _ _) _) _ _ _); k_dflt (k_here; (with_reducible show wpAny _ _ (exec (Stmt.For (Expr.Name _ _) (Expr.Call _ _ _ _) _ _ _) _) _ _ _); (rename Fr _ _ _ _ => F9); k_dflt (refine for_m F9 (by rfl) (by rfl) ?_))) | ((with_reducible show wpAny _ _ (subscriptTail _ _ _ _) _ _ _); (first | ((with_reducible show wpAny _ _ (subscriptTail (PySem.Expr.Name _ _) (PySem.Expr.Constant _ _ _) (Value.ref _) (Value.int _ _)) _ _ _); k_dflt (k_here; (with_reducible show wpAny _ _ (subscriptTail _ _ (Value.ref _) (Value.int _ _)) _ _ _); (refine' tup_item ?N ?hm ?h0 ?h1 ?hj ?hx ?_; (case N => k_asm); (case hm => k_mem); (case h0 => decide); (case h1 => decide); (case hj => rfl); (case hx => rfl)))) | ((with_reducible show wpAny _ _ (subscriptTail (PySem.Expr.Name _ _) (PySem.Expr.BinOp _ _ _ _) (Value.ref _) (Value.int _ _)) _ _ _); k_dflt (k_here; (with_reducible show wpAny _ _ (subscriptTail _ _ (Value.ref _) (Value.int _ _)) _ _ _); k_dflt (refine' list_item ?N ?hm ?h0 ?h1 ?hx ?_; (case N => k_asm); (case hm => k_mem); (case hx => assumption); (case h0 => omega); (case h1 => omega)))) | ((with_reducible show wpAny _ _ (subscriptTail (PySem.Expr.Name _ _) (PySem.Expr.Name _ _) (Value.ref _) (Value.int _ _)) _ _ _); k_dflt (k_here; (with_reducible show wpAny _ _ (subscriptTail _ _ (Value.ref _) (Value.int _ _)) _ _ _); k_dflt (refine' list_item ?N ?hm ?h0 ?h1 ?hx ?_; (case N => k_asm); (case hm => k_mem); (case hx => assumption); (case h0 => omega); (case h1 => omega)))))) | walk1 | (dsimp only; walk1) | (leave1; walk_say "STEP leave1"; try dsimp only) | fail "no step"))
      exact jt_end (by assumption) (news_e1 (by assumption)) hnw1 hn4 hl4 hD4 rfl rfl
          (fun y h1 h2 => by obtain ⟨a1, a2⟩ := off_SL h2; simp only [if_neg h1, if_neg a1, a2, Bool.false_eq_true, if_false, h2])
  · rintro h6 tk6 m₄ n₄ F9 N9 ⟨u4, d4, o4, rfl, rfl, hl4, hD4⟩
    (try ((with_reducible show wpAny _ _ _ _ _ _); k_fold)); (try (with_reducible refine any_tk ?_; intro _))
    dsimp only at F9
    clear F1 N1
    (try ((with_reducible show wpAny _ _ _ _ _ _); k_fold)); (try (with_reducible refine any_tk ?_; intro _)); (repeat' (first | (k_unfold; (try dsimp only)) | (k_end; wrow_close) | ((with_reducible show wpAny _ _ (execs (_ :: _) _) _ _ _); (with_reducible refine any_tk ?_); intro _) | ((with_reducible show KdnMade _ _ _ _ _ _ _); k_dflt (k_here; k_dflt (refine' d_made_one ?F ?N ?l ?lo ?hd ?_; (case F => k_asm); (case N => k_asm); (case l => assumption); (case lo => assumption); (case hd => assumption)); intro _ _ _ _ _)) | ((with_reducible show wpAny _ _ (eval (PySem.Expr.Dict _ _ _) _) _ _ _); k_dflt (k_here; (with_reducible show wpAny _ _ (eval (Expr.Dict (_ :: _) _ _) _) _ _ _); k_dflt (refine' kdn_eval (knd := PySem.intKind _ _) ?F ?N ?b ?a ?l ?e ?n ?_; (case F => k_asm); (case N => k_asm); (case b => exact Top.nolimit (by k_asm)); (case a => rfl); (case l => rfl); (case e => exact List.cons_ne_nil _ _); (case n => exact Nat.le_of_ble_eq_true rfl)); intro _ _ _ _ _ _ _ _)) | ((with_reducible show wpAny _ _ (call _ _) _ _ _); (first | ((with_reducible show wpAny _ _ (call (Value.ref _) _) _ _ _); k_dflt ((with_reducible show wpAny _ _ (call (Value.ref 49) [Value.ref _, Value.ref _]) _ _ _); k_here; k_dflt (refine' Con.use ?k1 ?k2 ?k3 ?k4 ?k5 ?kK (callers_con _ _ _ _ _ _ _ _ _ _ ?q1 ?q2 ?q3 ?q4) ?kd ?ku ?kp ?_; (case k1 => k_asm); (case k2 => k_asm); (case k3 => k_asm); (case k4 => k_asm); (case k5 => k_asm); (case kK => first | exact rfl | assumption); (case q1 => assumption); (case q2 => assumption); (case q3 => assumption); (case q4 => (simp; done)); (case kp => exact And.intro (by k_mem) (by k_mem)); (case kd => ktr_room); (case ku => ktr_units); k_whole); refine el_dict ?_; intro _ _ _ _ _ N9 _ _; (dsimp only [List.cons_append, List.nil_append] at N9); (try k_fold))) | ((with_reducible show wpAny _ _ (call (Value.ref _) _) _ _ _); k_dflt ((with_reducible show wpAny _ _ (call (Value.ref 98) [Value.ref _]) _ _ _); k_here; k_dflt (refine' Con.use ?k1 ?k2 ?k3 ?k4 ?k5 ?kK (colour_con _ _ _ _ _ _ _ _ _ _ ?ok) ?kd ?ku (stat_mono ?p1 ?p2) ?_; (case k1 => k_asm); (case k2 => k_asm); (case k3 => k_asm); (case k4 => k_asm); (case k5 => k_asm); (case kK => first | exact rfl | assumption); (case p1 => assumption); (case p2 => first | exact sub2 (by k_mem) (by k_mem) | (intro _ _; k_mem)); (case ok => assumption); (case kd => ktr_room); (case ku => ktr_units); k_whole); refine el_tup ?_; intro _ _ _ _ _ _ _ N9 _; (dsimp only [List.cons_append, List.nil_append] at N9); (try k_fold))) | ((with_reducible show wpAny _ _ (call (Value.builtin "dict.values") _) _ _ _); k_dflt (k_here; k_dflt (refine' d_values_call ?F ?N ?m ?D ?_; (case F => k_asm); (case N => k_asm); (case D => assumption); (case m => k_mem)); intro _ _ _ _ _ _ _)) | ((with_reducible show wpAny _ _ (call (Value.ref _) _) _ _ _); k_dflt ((with_reducible show wpAny _ _ (call (Value.ref 42) [Value.ref _, Value.ref _]) _ _ _); k_here; k_dflt (refine' Con.use ?k1 ?k2 ?k3 ?k4 ?k5 ?kK (stats_con _ _ _ _ _ _ _ _ _ _ _ _ _ _ _ _ ?q1 ?q2) ?kd ?ku (And.intro (stat_mono ?p1 ?p2) (stat_mono ?p3 ?p4)) ?_; (case k1 => k_asm); (case k2 => k_asm); (case k3 => k_asm); (case k4 => k_asm); (case k5 => k_asm); (case kK => first | exact rfl | assumption); (case p1 => assumption); (case p3 => assumption); (case p2 => first | exact sub2 (by k_mem) (by k_mem) | (intro p9 hp9; k_mem)); (case p4 => first | exact sub2 (by k_mem) (by k_mem) | (intro _ _; k_mem)); (case q1 => first | assumption | exact mix2_len _ _ | exact mix3_len _ _ _ | (simp; done)); (case q2 => first | assumption | (simp; done)); (case kd => ktr_room); (case ku => ktr_units); k_whole); refine el_stat ?_; intro _ _ _ _ _ _ _ _ _ _ N9 _ _ _; (dsimp only [List.cons_append, List.nil_append] at N9); (try k_fold))) | ((with_reducible show wpAny _ _ (call (Value.ref _) _) _ _ _); k_dflt ((with_reducible show wpAny _ _ (call (Value.ref 63) [Value.int _ _, Value.int _ _]) _ _ _); k_here; k_dflt (refine' Con.use ?k1 ?k2 ?k3 ?k4 ?k5 ?kK (spot_con _ _ _ _ _ _ _ _ ?hok) ?kd ?ku ?kp ?_; (case k1 => k_asm); (case k2 => k_asm); (case k3 => k_asm); (case k4 => k_asm); (case k5 => k_asm); (case kK => first | exact rfl | assumption); (case kp => trivial); (case kd => ktr_room); (case ku => ktr_units); (case hok => exact spot_ok (by first | exact fourth_b (by with_reducible assumption) (by with_reducible assumption) (by with_reducible assumption) | omega) (by omega) (by assumption)); k_whole); refine el_int ?_; intro _ _ _ _ N9 _; (dsimp only [List.cons_append, List.nil_append] at N9); (try k_fold))))) | ((with_reducible show wpAny _ _ (getMethod (Value.ref _) _ _) _ _ _); k_dflt (k_here; k_dflt (refine' d_method ?i ?N ?m ?D ?_; (case i => exact rfl); (case N => k_asm); (case D => assumption); (case m => k_mem)))) | ((with_reducible show wpAny _ _ (exec (PySem.Stmt.For (PySem.Expr.Name _ _) (PySem.Expr.Call _ _ _ _) _ _ _) _) _ _ _); k_dflt (k_here; (with_reducible show wpAny _ _ (exec (Stmt.For (Expr.Name _ _) (Expr.Call _ _ _ _) _ _ _) _) _ _ _); (rename Fr _ _ _ _ => F9); k_dflt (refine for_m F9 (by rfl) (by rfl) ?_))) | ((with_reducible show wpAny _ _ (subscriptTail _ _ _ _) _ _ _); (first | ((with_reducible show wpAny _ _ (subscriptTail (PySem.Expr.Name _ _) (PySem.Expr.Constant _ _ _) (Value.ref _) (Value.int _ _)) _ _ _); k_dflt (k_here; (with_reducible show wpAny _ _ (subscriptTail _ _ (Value.ref _) (Value.int _ _)) _ _ _); (refine' tup_item ?N ?hm ?h0 ?h1 ?hj ?hx ?_; (case N => k_asm); (case hm => k_mem); (case h0 => decide); (case h1 => decide); (case hj => rfl); (case hx => rfl)))) | ((with_reducible show wpAny _ _ (subscriptTail (PySem.Expr.Name _ _) (PySem.Expr.BinOp _ _ _ _) (Value.ref _) (Value.int _ _)) _ _ _); k_dflt (k_here; (with_reducible show wpAny _ _ (subscriptTail _ _ (Value.ref _) (Value.int _ _)) _ _ _); k_dflt (refine' list_item ?N ?hm ?h0 ?h1 ?hx ?_; (case N => k_asm); (case hm => k_mem); (case hx => assumption); (case h0 => omega); (case h1 => omega)))) | ((with_reducible show wpAny _ _ (subscriptTail (PySem.Expr.Name _ _) (PySem.Expr.Name _ _) (Value.ref _) (Value.int _ _)) _ _ _); k_dflt (k_here; (with_reducible show wpAny _ _ (subscriptTail _ _ (Value.ref _) (Value.int _ _)) _ _ _); k_dflt (refine' list_item ?N ?hm ?h0 ?h1 ?hx ?_; (case N => k_asm); (case hm => k_mem); (case hx => assumption); (case h0 => omega); (case h1 => omega)))))) | walk1 | (dsimp only; walk1) | (leave1; walk_say "STEP leave1"; try dsimp only) | fail "no step"))
    (rename News h₀ _ _ _ => N10)
    exact hret _ [(d4, o4)] _ _ (by assumption) (news_sub N10 fun p hp => by
        rcases List.mem_cons.mp hp with e | hp
        · rw [e]; exact .head _
        · exact .tail _ (.tail _ (.tail _ (.tail _ hp)))) (fun q hq p hp => by rw [List.mem_singleton.mp hp]; exact hl4 q hq) ⟨_, _, rfl, rfl, hD4⟩
end Mine
end

section -- G1
open PySem PySem.W PyProof.Rows PyProof.V PySem.Spec
set_option maxRecDepth 100000
namespace Mine
section
variable {prog : Program} {w : World} {A : Around} {R : GenEnd} {Y : Protocol} {n : Nat} {s₀ : Shared} {c : Code} {fs : List Frame} {s : Shared} {env : Env}
  {K : Flow → Sem Fin} {H : Value → Sem Fin} {gd : Bool → Bool} {lv : List Value → List Value}
theorem seg_If {test : Expr} {body orelse : List Stmt} {pos : Pos}
    (h : wpAny (model prog w) (A.over c fs) (isTrue test env (eval test env)) (fun b s' => if b = true then Seg (model prog w) A R Y n s₀ c ((execs body env).wrap K H gd lv) fs s' else Seg (model prog w) A R Y n s₀ c ((execs orelse env).wrap K H gd lv) fs s')
      (fun x s' => Seg (model prog w) A R Y n s₀ c (H x) fs s') s) :
    Seg (model prog w) A R Y n s₀ c ((exec (.If test body orelse pos) env).wrap K H gd lv) fs s := by
  show Seg _ A R Y n s₀ c (.at pos fun _ => Sem.wrap K H gd lv ((isTrue test env (eval test env)) >>= fun b => if b = true then execs body env else execs orelse env)) fs s
  refine seg_at ?_
  refine seg_bind_wrap (wpAny_mono h (fun b s' hb => ?_) fun _ _ e => e)
  cases b with
  | true => rw [if_pos rfl] at hb; simpa only [if_true] using hb
  | false => rw [if_neg Bool.false_ne_true] at hb; simpa only [Bool.false_eq_true, if_false] using hb
theorem seg_exec {st : Stmt}
    (h : wpAny (model prog w) (A.over c fs) (exec st env) (fun f s' => Seg (model prog w) A R Y n s₀ c (K f) fs s') (fun x s' => Seg (model prog w) A R Y n s₀ c (H x) fs s') s) :
    Seg (model prog w) A R Y n s₀ c ((exec st env).wrap K H gd lv) fs s := seg_wrap h
theorem seg_For {target iter : Expr} {body orelse : List Stmt} {pos : Pos}
    (h : wpAny (model prog w) (A.over c fs) (eval iter env) (fun xv s₁ => wpAny (model prog w) (A.over c fs) (pyIter xv) (fun it s₂ =>
      ∀ p, Seg (model prog w) A R Y n s₀ (.forLoop target it body orelse env) ((model prog w).den (.forLoop target it body orelse env))
      (.ret (fun r => ((match r with | .ok f => (.pure f : Sem Flow) | .error e => .raise e).onRaise fun (x : Value) => do
        if (← field x 1) == Value.none then unsupported "frame.own-activation:exception-without-traceback"
        setFlight x env.frame).wrap K H gd lv) none (gd false) (lv []) c p [] :: fs) s₂) (fun x s' => Seg (model prog w) A R Y n s₀ c (H x) fs s') s₁) (fun x s' => Seg (model prog w) A R Y n s₀ c (H x) fs s') s)
    (hs : ∀ x, foldedSetIterable iter env x = pure x := by intro _; rfl) :
    Seg (model prog w) A R Y n s₀ c ((exec (.For target iter body orelse pos) env).wrap K H gd lv) fs s := by
  rw [exec_For]
  refine seg_bind_wrap (wpAny_standAt ?_)
  refine seg_bind_wrap (wpAny_mono h (fun xv s₁ h₁ => ?_) fun _ _ e => e)
  refine seg_bind_wrap (wpAny_of_eq (hs xv) ?_)
  refine seg_bind_wrap (wpAny_standAt ?_)
  refine seg_bind_wrap (wpAny_holding (wpAny_mono h₁ (fun it s₂ h₂ => ?_) fun _ _ e => e))
  exact seg_call h₂
theorem seg_forLoop {target : Expr} {it : Value} {body orelse : List Stmt}
    (h : wpAny (model prog w) (A.over (.forLoop target it body orelse env) fs) (pyNext it) (fun r s₁ => match r with
      | none => Seg (model prog w) A R Y n s₀ (.block orelse env) ((model prog w).den (.block orelse env)) fs s₁
      | some v => wpAny (model prog w) (A.over (.forLoop target it body orelse env) fs) (assign target env v) (fun _ s₂ =>
          Seg (model prog w) A R Y n s₀ (.forLoop target it body orelse env) ((execs body env).wrap (fun f => match f with
            | .next | .cont => .pure (.again (.forLoop target it body orelse env))
            | .brk => .pure (.done .next)
            | .ret v => .pure (.done (.ret v))) (fun e => (do noteFrame e env; theTreesLotGoes e : Sem Unit).wrap (fun _ => .raise e) .raise id id) id id) fs s₂)
        (fun x s' => Seg (model prog w) A R Y n s₀ (.forLoop target it body orelse env) ((do noteFrame x env; theTreesLotGoes x : Sem Unit).wrap (fun _ => .raise x) .raise id id) fs s') s₁)
      (fun x s' => Seg (model prog w) A R Y n s₀ (.forLoop target it body orelse env) ((do noteFrame x env; theTreesLotGoes x : Sem Unit).wrap (fun _ => .raise x) .raise id id) fs s') s)
    (ht : ∀ v, letOwnedTupleGo target it v = pure () := by intro _; rfl) (hq : (Code.block orelse env).quiet = true := by rfl) :
    Seg (model prog w) A R Y n s₀ (.forLoop target it body orelse env) ((model prog w).den (.forLoop target it body orelse env)) fs s := by
  show Seg _ A R Y n s₀ _ ((forTurn target it body orelse env).onRaise (fun x => do noteFrame x env; theTreesLotGoes x)) fs s
  unfold forTurn
  rw [Sem.onRaise_eq_wrap]
  refine seg_bind_wrap (wpAny_standAt ?_)
  refine seg_bind_wrap (wpAny_onRaise (wpAny_mono h (fun r s₁ h₁ => ?_) fun x s' hx => wpAny_standAt ?_))
  · cases r with
    | none => exact seg_again hq h₁
    | some v =>
      refine seg_bind_wrap (wpAny_of_eq (ht v) ?_)
      refine seg_bind_wrap (wpAny_mono h₁ (fun _ s₂ h₂ => ?_) fun x s' hx => ?_)
      · rw [Sem.bind_eq_wrap', Sem.wrap_wrap]
        rw [Sem.wrap_congr (execs body env) _ _ (K' := fun f => match f with
            | .next | .cont => .pure (.again (.forLoop target it body orelse env))
            | .brk => .pure (.done .next)
            | .ret v => .pure (.done (.ret v))) (H' := (fun e => (do noteFrame e env; theTreesLotGoes e : Sem Unit).wrap (fun _ => .raise e) .raise id id))
          (fun f => by cases f <;> rfl)
          (fun e => by first | exact Sem.bind_eq_wrap _ _ | (show (do noteFrame e env; theTreesLotGoes e : Sem Unit).bind (fun _ => .raise e) = _; rw [Sem.bind_eq_wrap]))]
        exact h₂
      · first
        | (rw [← Sem.bind_eq_wrap] at hx; exact hx)
        | (show Seg _ A R Y n s₀ _ ((do noteFrame x env; theTreesLotGoes x : Sem Unit).bind fun _ => .raise x) fs s'; rw [Sem.bind_eq_wrap]; exact hx)
  · first
    | (rw [← Sem.bind_eq_wrap] at hx; exact hx)
    | (show Seg _ A R Y n s₀ _ ((do noteFrame x env; theTreesLotGoes x : Sem Unit).bind fun _ => .raise x) fs s'; rw [Sem.bind_eq_wrap]; exact hx)
theorem seg_block {stmts : List Stmt}
    (h : Seg (model prog w) A R Y n s₀ (.block stmts env) ((execs stmts env).wrap (fun f => .pure (.done f)) (fun e => (do noteFrame e env; theTreesLotGoes e : Sem Unit).wrap (fun _ => .raise e) .raise id id) id id) fs s) :
    Seg (model prog w) A R Y n s₀ (.block stmts env) ((model prog w).den (.block stmts env)) fs s := by
  show Seg _ A R Y n s₀ _ (((execs stmts env).onRaise (fun x => do noteFrame x env; theTreesLotGoes x)) >>= fun f => Sem.pure (.done f)) fs s
  rw [Sem.onRaise_eq_wrap, Sem.bind_eq_wrap', Sem.wrap_wrap]
  refine Eq.mpr (congrArg (fun t => Seg (model prog w) A R Y n s₀ (.block stmts env) t fs s) (Sem.wrap_congr (execs stmts env) (fun g => id (id g)) (fun l => id (id l)) (fun f => ?_) (fun e => ?_))) h
  · rfl
  · show Sem.wrap _ _ _ _ (Sem.bind _ _) = _
    rw [Sem.bind_eq_wrap, Sem.wrap_wrap]; rfl
end
end Mine
end

section -- G2
open PySem PySem.W PyProof.Rows PyProof.V PySem.Spec
set_option maxRecDepth 100000
namespace Mine
section
variable {prog : Program} {w : World} {A : Around} {E : Value → Shared → Prop} {s : Shared}
/-- next(g) of a generator that gives back None, and the state stays bare -/
theorem next_genQ {a : Addr} {g n : Nat} {gs : GenState} {P : Nat → Shared → Shared → Prop} {Y : Protocol} {Q : Option Value → Shared → Prop} (hh : A.handled = none)
    (hl : s.heap.NoLimit) (hroom : A.depth < recursionLimit)
    (hg : s.heap.IsGen a g) (hgs : s.gens[g]? = some gs)
    (hgo : gs.Goes (model prog w) A.in1 (fun n s₀ r s₁ => r = .ok (.ret .none) ∧ P n s₀ s₁) Y n (.send .none) (s.setGen g .running))
    (hY : ∀ v s₁ gs', gs'.bare = true → Y (n - 1) (s.setGen g .running) v s₁ (fun r' s'' => match n with
        | 0 => False
        | m + 1 => gs'.Goes (model prog w) A.in1 (fun n s₀ r s₁ => r = .ok (.ret .none) ∧ P n s₀ s₁) Y m r' s'') → Q (some v) (s₁.setGen g gs'))
    (hP : ∀ s₁, P n (s.setGen g .running) s₁ → ∀ h', (∀ b o, s₁.heap.get? b = some o → h'.get? b = some o) → Q none { s₁.setGen g .finished with heap := h' }) :
    wpAny (model prog w) A (pyNext (.ref a)) Q E s := by
  unfold pyNext
  refine wpAny_bind (wpAny_attempt (wpAny_callSpecial?_slot (name := Str.ofString "__next__") hg.typeIs slot_gen_next
    (wpAny_call_entry slot_gen_next hg.typeIs entry_gen_next ?_ (args_gen_next _))))
  show wpAny _ A.in1 (Builtin.Generator.genWake (.ref a) (.send .none)) _ _ s
  unfold Builtin.Generator.genWake
  refine wpAny_bind (wpAny_holding (wpAny_genNumber hg (wpAny_bind (wpAny_genState hgs ?_))))
  cases gs with
  | running => exact hgo.elim
  | finished => exact hgo.elim
  | _ =>
    refine wpAny_bind (wpAny_roomToWake hl hroom ?_)
    show wpAny _ A.in1 (.resume g (.send .none) [] _) _ _ s
    refine wpAny_resumeQ hgs hgo (fun x s₁ hx => ?_) (fun v s₁ gs' hb hv => ?_)
    · obtain ⟨rfl, hp⟩ := hx
      show wpAny _ A.in1 (newExc (.type "StopIteration") [] >>= _) _ _ _
      refine wpAny_bind ?_
      simp only [newExc, newTuple]
      refine wpAny_bind (wpAny_newObj_type ?_ (by size_fits))
      refine wpAny_bind (m := firstArgMember _ _) (wpAny_of_eq (a := Value.none) (by first | rfl | (simp only [firstArgMember]; rfl)) ?_)
      refine wpAny_newObj_type ?_ (by size_fits)
      simp only [raiseNew]
      refine wpAny_bind (wpAny_bind (wpAny_handled ?_))
      first | rw [show A.in1.handled = none from hh] | rw [hh]
      refine wpAny_throw ?_
      refine wpAny_bind (wpAny_isInstance (T := "StopIteration") (b := true) ⟨_, Heap.get?_push_size _ rfl, rfl⟩ isSubtype_stop ?_)
      exact wpAny_pure (hP s₁ hp _ fun b o hb => Heap.get?_push_of_some _ (Heap.get?_push_of_some _ hb))
    · exact wpAny_pure ⟨v, rfl, wpAny_pure (hY v s₁ gs' hb hv)⟩
end
section
variable {prog : Program} {w : World} {A : Around} {E : Value → Shared → Prop} {s : Shared} {K : Frag} {L : Addr} {h₀ : Heap} {m mg mb : Str → Option Value} {news : List (Addr × Obj)} {p : Program} {loose : List Str} {mean : ExcName → Option Value}
/-- the call of a generator function -/
theorem gen_make {Q : Value → Shared → Prop} {name qual : Str} {params : Arguments} {body : List Stmt} {scope : Scope} {dV kV doc pm cdv ct oc : Value} {an od : Option Addr} {osl : Array (Option Value)} {f : Addr} {vs : List Value} {binds : List (Str × Value)}
    (F : Fr h₀ L s.heap m) (X₀ : K.In h₀) (N : News h₀ L s.heap news) (T : Top p loose mean mg mb h₀)
    (ho : K.lookup f = some ⟨oc, od, .func (fnOf name qual params body scope dV kV doc pm an cdv ct), osl⟩) (hcd : codeIn K cdv qual = true) (hroom : A.depth < recursionLimit)
    (hbind : BindsTo s (fnOf name qual params body scope dV kV doc pm an cdv ct) ⟨vs, []⟩ binds) (hloc : ∀ y ∈ binds, scope.names.lookup y.1 = some .local)
    (h : ∀ C G oC oG h' tk, Fr h₀ L h' m → News h₀ L h' ((G, oG) :: (C, oC) :: news) → (∀ q ∈ news, q.1 < C) → C < G → h'.Ns C (fun y => binds.reverse.lookup y) → h'.IsGen G s.gens.size → h₀.objs.size ≤ C →
      Q (.ref G) { s with heap := h', gens := s.gens.push (.fresh (.func body (envOf qual scope C f cdv))), toks := tk })
    (hco : scope.isCoroutine = false) (hgen : scope.isGenerator = true) (hk : scope.kind = .function)
    (hcell : ∀ x ∈ scope.names, x.2 ≠ .cell) : wpAny (model prog w) A (call (.ref f) vs) Q E s := by
  refine wpAny_call ?_
  refine codeAny_call_generator (fd := fnOf name qual params body scope dV kV doc pm an cdv ct) hroom ((X₀.keeps F.keep) _ _ ho) rfl hco hgen rfl (codeRec_of (X₀.keeps F.keep) hcd) ?_
  refine hbind _ _ _ _ (wpAny_newFunctionEnv hcell hloc (fun h₁ hns hs => ?_) hk)
  have hk1 : ∀ b o, s.heap.get? b = some o → h₁.get? b = some o := fun b o e => hs.extBut b o (Nat.ne_of_lt (Heap.lt_size e)) (Heap.get?_push_of_some _ e)
  have hsz : h₁.objs.size = s.heap.objs.size + 1 := by rw [hs.1, Heap.size_push]
  refine ⟨(T.nolimit.keeps F.keep).keeps hk1, ?_⟩
  obtain ⟨oC, es, ep, hC, _⟩ := id hns
  have hk2 : ∀ (o' : Obj) b o, s.heap.get? b = some o → (h₁.push o').get? b = some o := fun o' b o e => Heap.get?_push_of_some _ (hk1 b o e)
  have hL : L < s.heap.objs.size := F.ns.lt
  have hh0 : h₀.objs.size ≤ s.heap.objs.size := Nat.le_trans F.above (Nat.le_of_lt hL)
  have none0 : ∀ b, s.heap.objs.size ≤ b → h₀.get? b = none := fun b hb => by
    cases e : h₀.get? b with
    | none => rfl
    | some o => exact absurd (Heap.lt_size (F.keep b o e)) (Nat.not_lt.mpr hb)
  have hlt1 : s.heap.objs.size < h₁.objs.size := by rw [hsz]; exact Nat.lt_succ_self _
  have hle1 : s.heap.objs.size ≤ h₁.objs.size := Nat.le_of_lt hlt1
  have hLne : h₁.objs.size ≠ L := fun e2 => Nat.lt_irrefl _ (Nat.lt_of_lt_of_le (e2 ▸ hL : h₁.objs.size < s.heap.objs.size) hle1)
  have key : ∀ (o' : Obj) (tk : Nat), (h₁.push o').IsGen h₁.objs.size s.gens.size → o'.isFreed = false →
      Q (.ref h₁.objs.size) { s with heap := h₁.push o', gens := s.gens.push (.fresh (.func body (envOf qual scope s.heap.objs.size f cdv))), toks := tk } := fun o' tk hgen hfr => by
    refine h s.heap.objs.size h₁.objs.size oC o' _ tk ⟨F.ns.at' fun o e => hk2 _ _ o e, fun b o e => hk2 _ b o (F.keep b o e), F.above⟩ ?_ (fun q hq => Heap.lt_size (N q hq).1) hlt1 (hns.push _) hgen hh0
    intro q hq
    rcases List.mem_cons.mp hq with e | hq
    · rw [e]
      exact ⟨Heap.get?_push_size _ hfr, hLne, none0 _ hle1⟩
    · rcases List.mem_cons.mp hq with e | hq
      · rw [e]
        exact ⟨Heap.get?_push_of_some _ hC, fun e2 => absurd hL (e2 ▸ Nat.lt_irrefl _), none0 _ (Nat.le_refl _)⟩
      · exact ⟨hk2 _ _ _ (N q hq).1, (N q hq).2⟩
  exact key _ _ ⟨_, _, _, Heap.get?_push_size _ rfl, rfl, rfl, rfl⟩ rfl
end
end Mine
end

section -- G3
open PySem PySem.W PyProof.Rows PyProof.V PySem.Spec
set_option maxRecDepth 100000
set_option maxHeartbeats 8000000
namespace Mine
theorem off_G3 : True := by
  w_top off
  trivial
noncomputable def gSame (C It l : Addr) (s s' : Shared) : Prop := ∀ b, b = C ∨ b = It ∨ b = l → ∀ o, s.heap.get? b = some o → s'.heap.get? b = some o
noncomputable def gKept (h₀ h : Heap) : Prop := ∀ b o, h₀.get? b = some o → h.get? b = some o
noncomputable def gSince (C It : Addr) (s₀ s : Shared) : Prop := ∃ h' tk, s = { s₀ with heap := h', toks := tk } ∧ ∀ b o, b ≠ C → b ≠ It → s₀.heap.get? b = some o → h'.get? b = some o
noncomputable def gY (h₀ : Heap) (C It l : Addr) (items : List Int) (ended : Bool) : Protocol := fun m s₀ v s κ =>
  (∃ y t, items[items.length - 1 - m]? = some y ∧ v = .int y t) ∧ gSince C It s₀ s ∧ (∃ oC oI, s.heap.get? C = some oC ∧ s.heap.get? It = some oI) ∧
    ((m ≠ 0 ∨ ended = true) → ∀ s'', gSame C It l s s'' → gKept h₀ s''.heap → κ (.send .none) s'')
noncomputable abbrev gR (C It : Addr) : GenEnd := fun n s₀ r s₁ => r = .ok (.ret .none) ∧ (n = 0 ∧ gSince C It s₀ s₁)
noncomputable abbrev lstO (vs : List Value) (nn : Nat) : Obj := { cls := .type "list", data := .seq vs.toArray nn }
noncomputable def GFresh (w : World) (h₀ : Heap) (C l : Addr) (lst : Obj) (items : List Int) (ended : Bool) (gs : GenState) : Prop :=
  ∀ (A1 : Around) (s : Shared), A1.handled = none → Fr h₀ C s.heap (fun y => [(Str.ofString "grouping", Value.ref l)].reverse.lookup y) → h₀.get? l = none → l ≠ C → s.heap.get? l = some lst →
    gs.Goes (model PR w) A1 (gR C s.heap.objs.size) (gY h₀ C s.heap.objs.size l items ended) items.length (.send .none) s
noncomputable def ItO (l : Addr) (i : Nat) (o : Obj) : Prop := o.cls = .type "list_iterator" ∧ o.data = .fields #[.ref l, .int i 0]
/-- all that lies in the heap of s, but for C and It, is in h₀ or in the list -/
noncomputable def Cov (h₀ : Heap) (C It : Addr) (s : Shared) (news : List (Addr × Obj)) : Prop := ∀ b o, b ≠ C → b ≠ It → s.heap.get? b = some o → h₀.get? b = some o ∨ (b, o) ∈ news
noncomputable def allNews (h₀ h : Heap) (off : List Addr) : List (Addr × Obj) := (List.range h.objs.size).filterMap fun b => if b ∈ off then none else match h.get? b with | some o => if (h₀.get? b).isNone = true then some (b, o) else none | none => none
theorem allNews_mem {h₀ h : Heap} {off : List Addr} {q : Addr × Obj} : q ∈ allNews h₀ h off ↔ q.1 ∉ off ∧ h.get? q.1 = some q.2 ∧ h₀.get? q.1 = none := by
  unfold allNews
  rw [List.mem_filterMap]
  constructor
  · rintro ⟨b, hb, e⟩
    (try ((with_reducible show wpAny _ _ _ _ _ _); k_fold))
    by_cases h1 : b ∈ off
    · rw [if_pos h1] at e; cases e
    · rw [if_neg h1] at e
      split at e
      next o ho =>
        by_cases h2 : (h₀.get? b).isNone = true
        · rw [if_pos h2] at e; cases e; exact ⟨h1, ho, by simpa using h2⟩
        · rw [if_neg h2] at e; cases e
      next => cases e
  · rintro ⟨h1, h2, h3⟩
    (try ((with_reducible show wpAny _ _ _ _ _ _); k_fold))
    refine ⟨q.1, List.mem_range.mpr (Heap.lt_size h2), ?_⟩
    rw [if_neg h1, h2]
    simp [h3]
theorem cov_start {h₀ : Heap} {C It l : Addr} {s : Shared} {lst : Obj} {m : Str → Option Value} (F : Fr h₀ C s.heap m) (hl : s.heap.get? l = some lst) (hl0 : h₀.get? l = none) (hlC : l ≠ C) :
    ∃ rest, News h₀ C s.heap ((l, lst) :: rest) ∧ Cov h₀ C It s ((l, lst) :: rest) ∧ ∀ q ∈ rest, q.1 ≠ It := by
  refine ⟨allNews h₀ s.heap [C, l, It], fun q hq => ?_, fun b o h1 h2 e => ?_, fun q hq e => (allNews_mem.mp hq).1 (by rw [e]; simp)⟩
  · rcases List.mem_cons.mp hq with e | hq
    · rw [e]; exact ⟨hl, hlC, hl0⟩
    · obtain ⟨h1, h2, h3⟩ := allNews_mem.mp hq
      exact ⟨h2, fun e => h1 (by rw [e]; exact .head _), h3⟩
  · cases e0 : h₀.get? b with
    | some o' =>
      have e3 := (F.keep b o' e0).symm.trans e
      exact .inl e3
    | none =>
      by_cases hb : b = l
      · rw [hb, hl] at e; cases e
        exact .inr (by rw [hb]; exact .head _)
      · exact .inr (.tail _ (allNews_mem.mpr ⟨by simp [h1, h2, hb], e, e0⟩))
theorem cov_resume {h₀ : Heap} {C It l : Addr} {s s' : Shared} {lst itO : Obj} {rest : List (Addr × Obj)} {m : Str → Option Value} (F : Fr h₀ C s.heap m) (N : News h₀ C s.heap ((It, itO) :: (l, lst) :: rest)) (hne : ∀ q ∈ (l, lst) :: rest, q.1 ≠ It) (hs : gSame C It l s s') (hk : gKept h₀ s'.heap) :
    ∃ rest', Fr h₀ C s'.heap m ∧ News h₀ C s'.heap ((It, itO) :: (l, lst) :: rest') ∧ Cov h₀ C It s' ((l, lst) :: rest') ∧ ∀ q ∈ (l, lst) :: rest', q.1 ≠ It := by
  have F' : Fr h₀ C s'.heap m := ⟨F.ns.at' fun o e => hs C (.inl rfl) o e, hk, F.above⟩
  have n1 := N _ (.head _)
  have n2 := N (l, lst) (.tail _ (.head _))
  obtain ⟨rest', N', c', hr⟩ := cov_start (It := It) F' (hs l (.inr (.inr rfl)) _ n2.1) n2.2.2 n2.2.1
  refine ⟨rest', F', fun q hq => ?_, c', fun q hq => (List.mem_cons.mp hq).elim (fun e => by rw [e]; exact hne (l, lst) (.head _)) (hr q)⟩
  rcases List.mem_cons.mp hq with e | hq
  · rw [e]; exact ⟨hs It (.inr (.inl rfl)) _ n1.1, n1.2⟩
  · exact N' q hq
theorem since_of {h₀ : Heap} {C It : Addr} {s₀ : Shared} {news : List (Addr × Obj)} {m : Str → Option Value} {h : Heap} {tk : Nat} {itO : Obj} (c : Cov h₀ C It s₀ news) (F : Fr h₀ C h m) (N : News h₀ C h ((It, itO) :: news)) : gSince C It s₀ { s₀ with heap := h, toks := tk } :=
  ⟨h, tk, rfl, fun b o h1 h2 e => (c b o h1 h2 e).elim (fun e' => F.keep b o e') fun hm => (N (b, o) (.tail _ hm)).1⟩
theorem g_item {prog : Program} {w : World} {A : Around} {E : Value → Shared → Prop} {s : Shared} {h₀ : Heap} {C It l : Addr} {i : Nat} {itO : Obj} {vs : List Value} {nn : Nat} {rest : List (Addr × Obj)} {m : Str → Option Value} {v : Value} {Q : Option Value → Shared → Prop}
    (F : Fr h₀ C s.heap m) (N : News h₀ C s.heap ((It, itO) :: (l, lstO vs nn) :: rest)) (hn : ∀ q ∈ (l, lstO vs nn) :: rest, q.1 ≠ It) (hi : ItO l i itO) (hx : vs[i]? = some v)
    (h : ∀ h' itO', ItO l (i + 1) itO' → Fr h₀ C h' m → News h₀ C h' ((It, itO') :: (l, lstO vs nn) :: rest) → Q (some v) { s with heap := h' }) :
    wpAny (model prog w) A (pyNext (.ref It)) Q E s := by
  have n1 := N _ (.head _)
  have hl : s.heap.IsList l vs.toArray := News.isList (news := (It, itO) :: (l, lstO vs nn) :: rest) N (.tail _ (.head _))
  refine wpAny_pyNext_list_item (i := i) ⟨itO, n1.1, hi⟩ hl (x := v) (by simpa using hx) fun h' hit' hs' => ?_
  obtain ⟨itO', e1, e2⟩ := hit'
  refine h h' itO' e2 ⟨F.ns.sameBut hs' (Ne.symm n1.2.1), fun b o e => ?_, F.above⟩ fun q hq => ?_
  · refine hs'.extBut b o (fun e3 => ?_) (F.keep b o e)
    rw [e3, n1.2.2] at e; cases e
  · rcases List.mem_cons.mp hq with e | hq
    · rw [e]; exact ⟨e1, n1.2⟩
    · exact ⟨hs'.extBut _ _ (hn q hq) (N q (.tail _ hq)).1, (N q (.tail _ hq)).2⟩
theorem g_end {prog : Program} {w : World} {A : Around} {E : Value → Shared → Prop} {s : Shared} {h₀ : Heap} {C It l : Addr} {itO : Obj} {vs : List Value} {nn : Nat} {rest : List (Addr × Obj)} {m : Str → Option Value} {Q : Option Value → Shared → Prop}
    (hh : A.handled = none) (F : Fr h₀ C s.heap m) (N : News h₀ C s.heap ((It, itO) :: (l, lstO vs nn) :: rest)) (hn : ∀ q ∈ (l, lstO vs nn) :: rest, q.1 ≠ It) (hi : ItO l vs.length itO)
    (h : ∀ h', Fr h₀ C h' m → (∀ q ∈ (l, lstO vs nn) :: rest, h'.get? q.1 = some q.2) → Q none { s with heap := h' }) :
    wpAny (model prog w) A (pyNext (.ref It)) Q E s := by
  have n1 := N _ (.head _)
  have hl : s.heap.IsList l vs.toArray := News.isList (news := (It, itO) :: (l, lstO vs nn) :: rest) N (.tail _ (.head _))
  refine wpAny_pyNext_list_end (i := vs.length) hh ⟨itO, n1.1, hi⟩ hl (by simp) fun h' he' => ?_
  refine h h' ⟨F.ns.at' fun o e => he' _ o (Ne.symm n1.2.1) e, fun b o e => ?_, F.above⟩ fun q hq => he' _ _ (hn q hq) (N q (.tail _ hq)).1
  refine he' b o (fun e3 => ?_) (F.keep b o e)
  rw [e3, n1.2.2] at e; cases e
theorem store_sized {M : Model} {A : Around} {E : Value → Shared → Prop} {s : Shared} {env : Env} {h₀ : Heap} {m : Str → Option Value} {news : List (Addr × Obj)} {x : Str} {v : Value} {Q : Unit → Shared → Prop}
    (F : Fr h₀ env.locals s.heap m) (N : News h₀ env.locals s.heap news) (hl : env.kindOf x = some .local) (hp : (env.scope.kind == .class || (env.scope.kind == .module && env.locals != env.globals)) = false)
    (h : ∀ h', h'.objs.size = s.heap.objs.size → Fr h₀ env.locals h' (fun y => if y = x then some v else m y) → News h₀ env.locals h' news → Q () { s with heap := h', toks := s.toks + 1 }) : wpAny M A (storeName env x v) Q E s :=
  wpAny_storeName_local hl F.ns (fun h' hn hs => h h' hs.1 (F.set hn hs) (N.set hs)) hp
theorem g_iter {prog : Program} {w : World} {A : Around} {E : Value → Shared → Prop} {s : Shared} {h₀ : Heap} {C l : Addr} {vs : List Value} {nn : Nat} {rest : List (Addr × Obj)} {m : Str → Option Value} {Q : Value → Shared → Prop}
    (F : Fr h₀ C s.heap m) (N : News h₀ C s.heap ((l, lstO vs nn) :: rest))
    (h : ∀ h' itO, ItO l 0 itO → Fr h₀ C h' m → News h₀ C h' ((s.heap.objs.size, itO) :: (l, lstO vs nn) :: rest) → (∀ q ∈ (l, lstO vs nn) :: rest, q.1 ≠ s.heap.objs.size) → Q (.ref s.heap.objs.size) { s with heap := h' }) :
    wpAny (model prog w) A (pyIter (.ref l)) Q E s := by
  have hl : s.heap.IsList l vs.toArray := News.isList (news := (l, lstO vs nn) :: rest) N (.head _)
  have hC : C < s.heap.objs.size := F.ns.lt
  refine wpAny_pyIter_list hl (h _ { cls := .type "list_iterator", data := .fields #[.ref l, .int 0 0] } ⟨rfl, rfl⟩ (F.push _) (fun q hq => ?_) fun q hq => Nat.ne_of_lt (Heap.lt_size (N q hq).1))
  rcases List.mem_cons.mp hq with e | hq
  · rw [e]
    refine ⟨Heap.get?_push_size _ rfl, fun e2 => absurd hC (e2 ▸ Nat.lt_irrefl _), ?_⟩
    cases e0 : h₀.get? s.heap.objs.size with
    | none => rfl
    | some o => exact absurd (Heap.lt_size (F.keep _ o e0)) (Nat.lt_irrefl _)
  · exact ⟨Heap.get?_push_of_some _ (N q hq).1, (N q hq).2⟩
theorem y_here {h₀ : Heap} {C It l : Addr} {items : List Int} {ended : Bool} {k : Nat} {s₀ : Shared} {news : List (Addr × Obj)} {m : Str → Option Value} {h : Heap} {tk : Nat} {itO : Obj} {y : Int} {t : Tok} {κ : Resume → Shared → Prop}
    (hi : items[items.length - 1 - k]? = some y) (c : Cov h₀ C It s₀ news) (F : Fr h₀ C h m) (N : News h₀ C h ((It, itO) :: news))
    (hκ : (k ≠ 0 ∨ ended = true) → ∀ s'', gSame C It l { s₀ with heap := h, toks := tk } s'' → gKept h₀ s''.heap → κ (.send .none) s'') : gY h₀ C It l items ended k s₀ (.int y t) { s₀ with heap := h, toks := tk } κ := by
  obtain ⟨oC, es, ep, hC, _⟩ := F.ns
  exact ⟨⟨y, t, hi, rfl⟩, since_of c F N, ⟨oC, itO, hC, (N _ (.head _)).1⟩, hκ⟩
theorem r_here {h₀ : Heap} {C It : Addr} {s₀ : Shared} {news : List (Addr × Obj)} {m : Str → Option Value} {h : Heap} {tk : Nat} (c : Cov h₀ C It s₀ news) (F : Fr h₀ C h m) (hn : ∀ q ∈ news, h.get? q.1 = some q.2) : gR C It 0 s₀ (.ok (.ret .none)) { s₀ with heap := h, toks := tk } :=
  ⟨rfl, rfl, h, tk, rfl, fun b o h1 h2 e => (c b o h1 h2 e).elim (fun e' => F.keep b o e') fun hm => hn (b, o) hm⟩
end Mine
end

section -- G4
open PySem PySem.W PyProof.Rows PyProof.V PySem.Spec
set_option maxRecDepth 100000
set_option maxHeartbeats 8000000
namespace Mine
theorem off_G4 : True := by
  w_top off
  trivial
theorem gen_two (w : World) (mean : ExcName → Option Value) (mg mb : Str → Option Value) {A : Around} {E : Value → Shared → Prop} {s : Shared} {L l : Addr} {h₀ : Heap} {m : Str → Option Value} {news : List (Addr × Obj)} {vs : List Value} {nn : Nat} {Q : Value → Shared → Prop}
    {a b : Int} {ta tb tc td : Tok} (ha : a ≠ 0 ∧ a ≠ 127) (hb : b ≠ 0 ∧ b ≠ 127) (hvs : vs = [.int a ta, .int b tb])
    (F : Fr h₀ L s.heap m) (X : (hd.heap_39 w.params).In h₀) (N : News h₀ L s.heap news) (T : Top PV [] mean mg mb h₀) (hroom : A.depth < recursionLimit)
    (h : ∀ C G oC oG h' tk gs, Fr h₀ L h' m → News h₀ L h' ((G, oG) :: (C, oC) :: news) → (∀ q ∈ news, q.1 < C) → C < G → h'.Ns C (fun y => [(Str.ofString "grouping", Value.ref l)].reverse.lookup y) → h'.IsGen G s.gens.size → h₀.objs.size ≤ C → gs.bare = true →
      GFresh w h₀ C l (lstO vs nn) [a, b] true gs → Q (.ref G) { s with heap := h', gens := s.gens.push gs, toks := tk }) :
    wpAny (model PR w) A (call (.ref 35) [.ref l]) Q E s := by
  refine' gen_make F X N T ?ho ?hcd hroom ?hbind ?hloc ?hh ?c1 ?c2 ?c3 ?c4
  case ho => k_is
  case hcd => k_is
  case hbind => exact BindsTo.of_eq rfl
  case hloc => exact locs rfl
  case c1 => exact rfl
  case c2 => exact rfl
  case c3 => exact rfl
  case c4 => decide
  case hh =>
    intro C G oC oG h' tk F' N' hlC hCG hns hgen hsz
    refine h C G oC oG h' tk _ F' N' hlC hCG hns hgen hsz rfl ?_
    clear h hgen hns hlC hCG F' N' h' tk oC oG G N F
    intro A1 s hh F hl0 hlC hls
    obtain ⟨It, hIt⟩ : ∃ It, It = s.heap.objs.size := ⟨_, rfl⟩
    rw [← hIt]
    obtain ⟨rest, N, cov, _⟩ := cov_start (It := It) F hls hl0 hlC
    refine ⟨rfl, seg_func ?_⟩
    refine seg_execs_cons (seg_exec ?_)
    (try ((with_reducible show wpAny _ _ _ _ _ _); k_fold)); (repeat' (first | (k_unfold; (try dsimp only)) | (k_end; wrow_close) | ((with_reducible show wpAny _ _ (storeName _ _ _) _ _ _); k_dflt (k_here; (refine' store_sized ?F ?N ?hl ?hp ?_; (case F => k_asm); (case N => k_asm); (case hl => exact rfl); (case hp => exact rfl)); intro _ _ F9 N9; (dsimp only [envOf] at F9 N9); revert F9 N9; intro _ _)) | walk1 | (dsimp only; walk1) | (leave1; walk_say "STEP leave1"; try dsimp only) | fail "no step"))
    refine seg_execs_cons (seg_For ?_)
    (try ((with_reducible show wpAny _ _ _ _ _ _); k_fold)); (repeat' (first | (k_unfold; (try dsimp only)) | (k_end; wrow_close) | ((with_reducible show wpAny _ _ (storeName _ _ _) _ _ _); k_dflt (k_here; (refine' store_sized ?F ?N ?hl ?hp ?_; (case F => k_asm); (case N => k_asm); (case hl => exact rfl); (case hp => exact rfl)); intro _ _ F9 N9; (dsimp only [envOf] at F9 N9); revert F9 N9; intro _ _)) | walk1 | (dsimp only; walk1) | (leave1; walk_say "STEP leave1"; try dsimp only) | fail "no step"))
    (rename (_ = Array.size (Heap.objs _)) => hz)
    have hz' := hz.trans hIt.symm
    clear hz hIt
    refine g_iter (by assumption) (by assumption) ?_
    clear F N
    rename_i h1 F1 N1
    clear F1 N1
    intro h2 it0 hit F N hne p
    (try dsimp only at N hne)
    rw [hz'] at N hne
    (try dsimp only)
    rw [hz']
    clear hz'
    refine seg_forLoop ?_
    refine g_item F N hne hit (v := .int a ta) (by rw [hvs]; rfl) ?_
    intro h3 it1 hit1 F3 N3
    clear hit F N
    dsimp only
    (try ((with_reducible show wpAny _ _ _ _ _ _); k_fold)); (repeat' (first | (k_unfold; (try dsimp only)) | (k_end; wrow_close) | ((with_reducible show wpAny _ _ (storeName _ _ _) _ _ _); k_dflt (k_here; (refine' store_sized ?F ?N ?hl ?hp ?_; (case F => k_asm); (case N => k_asm); (case hl => exact rfl); (case hp => exact rfl)); intro _ _ F9 N9; (dsimp only [envOf] at F9 N9); revert F9 N9; intro _ _)) | walk1 | (dsimp only; walk1) | (leave1; walk_say "STEP leave1"; try dsimp only) | fail "no step"))
    clear F3 N3
    refine seg_execs_cons (seg_If ?_)
    (try ((with_reducible show wpAny _ _ _ _ _ _); k_fold)); (repeat' (first | (k_unfold; (try dsimp only)) | (k_end; wrow_close) | ((with_reducible show wpAny _ _ (storeName _ _ _) _ _ _); k_dflt (k_here; (refine' store_sized ?F ?N ?hl ?hp ?_; (case F => k_asm); (case N => k_asm); (case hl => exact rfl); (case hp => exact rfl)); intro _ _ F9 N9; (dsimp only [envOf] at F9 N9); revert F9 N9; intro _ _)) | walk1 | (dsimp only; walk1) | (leave1; walk_say "STEP leave1"; try dsimp only) | fail "no step"))
    · exact absurd (by assumption) ha.2
    refine seg_execs_nil ?_
    dsimp only
    refine seg_execs_cons (seg_If ?_)
    (try ((with_reducible show wpAny _ _ _ _ _ _); k_fold)); (repeat' (first | (k_unfold; (try dsimp only)) | (k_end; wrow_close) | ((with_reducible show wpAny _ _ (storeName _ _ _) _ _ _); k_dflt (k_here; (refine' store_sized ?F ?N ?hl ?hp ?_; (case F => k_asm); (case N => k_asm); (case hl => exact rfl); (case hp => exact rfl)); intro _ _ F9 N9; (dsimp only [envOf] at F9 N9); revert F9 N9; intro _ _)) | walk1 | (dsimp only; walk1) | (leave1; walk_say "STEP leave1"; try dsimp only) | fail "no step"))
    · exact absurd (by assumption) ha.1
    refine seg_execs_nil ?_
    dsimp only
    refine seg_execs_cons (seg_Expr_Yield rfl rfl rfl ?_)
    (try ((with_reducible show wpAny _ _ _ _ _ _); k_fold)); (repeat' (first | (k_unfold; (try dsimp only)) | (k_end; wrow_close) | ((with_reducible show wpAny _ _ (storeName _ _ _) _ _ _); k_dflt (k_here; (refine' store_sized ?F ?N ?hl ?hp ?_; (case F => k_asm); (case N => k_asm); (case hl => exact rfl); (case hp => exact rfl)); intro _ _ F9 N9; (dsimp only [envOf] at F9 N9); revert F9 N9; intro _ _)) | walk1 | (dsimp only; walk1) | (leave1; walk_say "STEP leave1"; try dsimp only) | fail "no step"))
    rename_i kap hkap
    (rename Fr _ _ _ _ => F4)
    (rename News _ _ _ _ => N4)
    refine y_here rfl cov F4 N4 ?_
    intro _ s4 hsame hkept
    refine hkap .none s4 ?_
    clear hkap
    obtain ⟨rest5, F5, N5, cov5, hne5⟩ := cov_resume F4 N4 hne hsame hkept
    clear F4 N4 hne cov hsame hkept
    dsimp only
    refine seg_execs_cons (seg_exec ?_)
    (try ((with_reducible show wpAny _ _ _ _ _ _); k_fold)); (repeat' (first | (k_unfold; (try dsimp only)) | (k_end; wrow_close) | ((with_reducible show wpAny _ _ (storeName _ _ _) _ _ _); k_dflt (k_here; (refine' store_sized ?F ?N ?hl ?hp ?_; (case F => k_asm); (case N => k_asm); (case hl => exact rfl); (case hp => exact rfl)); intro _ _ F9 N9; (dsimp only [envOf] at F9 N9); revert F9 N9; intro _ _)) | walk1 | (dsimp only; walk1) | (leave1; walk_say "STEP leave1"; try dsimp only) | fail "no step"))
    refine seg_execs_nil ?_
    dsimp only
    refine seg_again rfl ?_
    clear F5 N5
    rename (Fr _ _ _ _) => F
    rename (News _ _ _ _) => N
    have hne := hne5
    have cov := cov5
    clear hne5 cov5
    have hit := hit1
    clear hit1
    refine seg_forLoop ?_
    refine g_item F N hne hit (v := .int b tb) (by rw [hvs]; rfl) ?_
    intro h3 it1 hit1 F3 N3
    clear hit F N
    dsimp only
    (try ((with_reducible show wpAny _ _ _ _ _ _); k_fold)); (repeat' (first | (k_unfold; (try dsimp only)) | (k_end; wrow_close) | ((with_reducible show wpAny _ _ (storeName _ _ _) _ _ _); k_dflt (k_here; (refine' store_sized ?F ?N ?hl ?hp ?_; (case F => k_asm); (case N => k_asm); (case hl => exact rfl); (case hp => exact rfl)); intro _ _ F9 N9; (dsimp only [envOf] at F9 N9); revert F9 N9; intro _ _)) | walk1 | (dsimp only; walk1) | (leave1; walk_say "STEP leave1"; try dsimp only) | fail "no step"))
    clear F3 N3
    refine seg_execs_cons (seg_If ?_)
    (try ((with_reducible show wpAny _ _ _ _ _ _); k_fold)); (repeat' (first | (k_unfold; (try dsimp only)) | (k_end; wrow_close) | ((with_reducible show wpAny _ _ (storeName _ _ _) _ _ _); k_dflt (k_here; (refine' store_sized ?F ?N ?hl ?hp ?_; (case F => k_asm); (case N => k_asm); (case hl => exact rfl); (case hp => exact rfl)); intro _ _ F9 N9; (dsimp only [envOf] at F9 N9); revert F9 N9; intro _ _)) | walk1 | (dsimp only; walk1) | (leave1; walk_say "STEP leave1"; try dsimp only) | fail "no step"))
    · exact absurd (by assumption) hb.2
    refine seg_execs_nil ?_
    dsimp only
    refine seg_execs_cons (seg_If ?_)
    (try ((with_reducible show wpAny _ _ _ _ _ _); k_fold)); (repeat' (first | (k_unfold; (try dsimp only)) | (k_end; wrow_close) | ((with_reducible show wpAny _ _ (storeName _ _ _) _ _ _); k_dflt (k_here; (refine' store_sized ?F ?N ?hl ?hp ?_; (case F => k_asm); (case N => k_asm); (case hl => exact rfl); (case hp => exact rfl)); intro _ _ F9 N9; (dsimp only [envOf] at F9 N9); revert F9 N9; intro _ _)) | walk1 | (dsimp only; walk1) | (leave1; walk_say "STEP leave1"; try dsimp only) | fail "no step"))
    · exact absurd (by assumption) hb.1
    refine seg_execs_nil ?_
    dsimp only
    refine seg_execs_cons (seg_Expr_Yield rfl rfl rfl ?_)
    (try ((with_reducible show wpAny _ _ _ _ _ _); k_fold)); (repeat' (first | (k_unfold; (try dsimp only)) | (k_end; wrow_close) | ((with_reducible show wpAny _ _ (storeName _ _ _) _ _ _); k_dflt (k_here; (refine' store_sized ?F ?N ?hl ?hp ?_; (case F => k_asm); (case N => k_asm); (case hl => exact rfl); (case hp => exact rfl)); intro _ _ F9 N9; (dsimp only [envOf] at F9 N9); revert F9 N9; intro _ _)) | walk1 | (dsimp only; walk1) | (leave1; walk_say "STEP leave1"; try dsimp only) | fail "no step"))
    rename_i kap hkap
    (rename Fr _ _ _ _ => F4)
    (rename News _ _ _ _ => N4)
    refine y_here rfl cov F4 N4 ?_
    intro _ s4 hsame hkept
    refine hkap .none s4 ?_
    clear hkap
    obtain ⟨rest5, F5, N5, cov5, hne5⟩ := cov_resume F4 N4 hne hsame hkept
    clear F4 N4 hne cov hsame hkept
    dsimp only
    refine seg_execs_cons (seg_exec ?_)
    (try ((with_reducible show wpAny _ _ _ _ _ _); k_fold)); (repeat' (first | (k_unfold; (try dsimp only)) | (k_end; wrow_close) | ((with_reducible show wpAny _ _ (storeName _ _ _) _ _ _); k_dflt (k_here; (refine' store_sized ?F ?N ?hl ?hp ?_; (case F => k_asm); (case N => k_asm); (case hl => exact rfl); (case hp => exact rfl)); intro _ _ F9 N9; (dsimp only [envOf] at F9 N9); revert F9 N9; intro _ _)) | walk1 | (dsimp only; walk1) | (leave1; walk_say "STEP leave1"; try dsimp only) | fail "no step"))
    refine seg_execs_nil ?_
    dsimp only
    refine seg_again rfl ?_
    clear F5 N5
    rename (Fr _ _ _ _) => F
    rename (News _ _ _ _) => N
    have hne := hne5
    have cov := cov5
    clear hne5 cov5
    have hit := hit1
    clear hit1
    refine seg_forLoop ?_
    refine g_end hh F N hne (by rw [hvs]; exact hit) ?_
    intro h3 F3 N3
    dsimp only
    refine seg_block ?_
    refine seg_execs_nil ?_
    refine seg_leaf (.ok .next) ?_
    refine seg_end (.ok (.ret .none)) ?_
    exact r_here cov F3 N3
theorem gen_stop (w : World) (mean : ExcName → Option Value) (mg mb : Str → Option Value) {A : Around} {E : Value → Shared → Prop} {s : Shared} {L l : Addr} {h₀ : Heap} {m : Str → Option Value} {news : List (Addr × Obj)} {vs : List Value} {nn : Nat} {Q : Value → Shared → Prop}
    {a b : Int} {ta tb tc td : Tok} (ha : a ≠ 0 ∧ a ≠ 127) (hb : b ≠ 0 ∧ b ≠ 127) (hvs : vs = [.int a ta, .int b tb, .int 127 tc, .int 5 td])
    (F : Fr h₀ L s.heap m) (X : (hd.heap_39 w.params).In h₀) (N : News h₀ L s.heap news) (T : Top PV [] mean mg mb h₀) (hroom : A.depth < recursionLimit)
    (h : ∀ C G oC oG h' tk gs, Fr h₀ L h' m → News h₀ L h' ((G, oG) :: (C, oC) :: news) → (∀ q ∈ news, q.1 < C) → C < G → h'.Ns C (fun y => [(Str.ofString "grouping", Value.ref l)].reverse.lookup y) → h'.IsGen G s.gens.size → h₀.objs.size ≤ C → gs.bare = true →
      GFresh w h₀ C l (lstO vs nn) [a, b] true gs → Q (.ref G) { s with heap := h', gens := s.gens.push gs, toks := tk }) :
    wpAny (model PR w) A (call (.ref 35) [.ref l]) Q E s := by
  refine' gen_make F X N T ?ho ?hcd hroom ?hbind ?hloc ?hh ?c1 ?c2 ?c3 ?c4
  case ho => k_is
  case hcd => k_is
  case hbind => exact BindsTo.of_eq rfl
  case hloc => exact locs rfl
  case c1 => exact rfl
  case c2 => exact rfl
  case c3 => exact rfl
  case c4 => decide
  case hh =>
    intro C G oC oG h' tk F' N' hlC hCG hns hgen hsz
    refine h C G oC oG h' tk _ F' N' hlC hCG hns hgen hsz rfl ?_
    clear h hgen hns hlC hCG F' N' h' tk oC oG G N F
    intro A1 s hh F hl0 hlC hls
    obtain ⟨It, hIt⟩ : ∃ It, It = s.heap.objs.size := ⟨_, rfl⟩
    rw [← hIt]
    obtain ⟨rest, N, cov, _⟩ := cov_start (It := It) F hls hl0 hlC
    refine ⟨rfl, seg_func ?_⟩
    refine seg_execs_cons (seg_exec ?_)
    (try ((with_reducible show wpAny _ _ _ _ _ _); k_fold)); (repeat' (first | (k_unfold; (try dsimp only)) | (k_end; wrow_close) | ((with_reducible show wpAny _ _ (storeName _ _ _) _ _ _); k_dflt (k_here; (refine' store_sized ?F ?N ?hl ?hp ?_; (case F => k_asm); (case N => k_asm); (case hl => exact rfl); (case hp => exact rfl)); intro _ _ F9 N9; (dsimp only [envOf] at F9 N9); revert F9 N9; intro _ _)) | walk1 | (dsimp only; walk1) | (leave1; walk_say "STEP leave1"; try dsimp only) | fail "no step"))
    refine seg_execs_cons (seg_For ?_)
    (try ((with_reducible show wpAny _ _ _ _ _ _); k_fold)); (repeat' (first | (k_unfold; (try dsimp only)) | (k_end; wrow_close) | ((with_reducible show wpAny _ _ (storeName _ _ _) _ _ _); k_dflt (k_here; (refine' store_sized ?F ?N ?hl ?hp ?_; (case F => k_asm); (case N => k_asm); (case hl => exact rfl); (case hp => exact rfl)); intro _ _ F9 N9; (dsimp only [envOf] at F9 N9); revert F9 N9; intro _ _)) | walk1 | (dsimp only; walk1) | (leave1; walk_say "STEP leave1"; try dsimp only) | fail "no step"))
    (rename (_ = Array.size (Heap.objs _)) => hz)
    have hz' := hz.trans hIt.symm
    clear hz hIt
    refine g_iter (by assumption) (by assumption) ?_
    clear F N
    rename_i h1 F1 N1
    clear F1 N1
    intro h2 it0 hit F N hne p
    (try dsimp only at N hne)
    rw [hz'] at N hne
    (try dsimp only)
    rw [hz']
    clear hz'
    refine seg_forLoop ?_
    refine g_item F N hne hit (v := .int a ta) (by rw [hvs]; rfl) ?_
    intro h3 it1 hit1 F3 N3
    clear hit F N
    dsimp only
    (try ((with_reducible show wpAny _ _ _ _ _ _); k_fold)); (repeat' (first | (k_unfold; (try dsimp only)) | (k_end; wrow_close) | ((with_reducible show wpAny _ _ (storeName _ _ _) _ _ _); k_dflt (k_here; (refine' store_sized ?F ?N ?hl ?hp ?_; (case F => k_asm); (case N => k_asm); (case hl => exact rfl); (case hp => exact rfl)); intro _ _ F9 N9; (dsimp only [envOf] at F9 N9); revert F9 N9; intro _ _)) | walk1 | (dsimp only; walk1) | (leave1; walk_say "STEP leave1"; try dsimp only) | fail "no step"))
    clear F3 N3
    refine seg_execs_cons (seg_If ?_)
    (try ((with_reducible show wpAny _ _ _ _ _ _); k_fold)); (repeat' (first | (k_unfold; (try dsimp only)) | (k_end; wrow_close) | ((with_reducible show wpAny _ _ (storeName _ _ _) _ _ _); k_dflt (k_here; (refine' store_sized ?F ?N ?hl ?hp ?_; (case F => k_asm); (case N => k_asm); (case hl => exact rfl); (case hp => exact rfl)); intro _ _ F9 N9; (dsimp only [envOf] at F9 N9); revert F9 N9; intro _ _)) | walk1 | (dsimp only; walk1) | (leave1; walk_say "STEP leave1"; try dsimp only) | fail "no step"))
    · exact absurd (by assumption) ha.2
    refine seg_execs_nil ?_
    dsimp only
    refine seg_execs_cons (seg_If ?_)
    (try ((with_reducible show wpAny _ _ _ _ _ _); k_fold)); (repeat' (first | (k_unfold; (try dsimp only)) | (k_end; wrow_close) | ((with_reducible show wpAny _ _ (storeName _ _ _) _ _ _); k_dflt (k_here; (refine' store_sized ?F ?N ?hl ?hp ?_; (case F => k_asm); (case N => k_asm); (case hl => exact rfl); (case hp => exact rfl)); intro _ _ F9 N9; (dsimp only [envOf] at F9 N9); revert F9 N9; intro _ _)) | walk1 | (dsimp only; walk1) | (leave1; walk_say "STEP leave1"; try dsimp only) | fail "no step"))
    · exact absurd (by assumption) ha.1
    refine seg_execs_nil ?_
    dsimp only
    refine seg_execs_cons (seg_Expr_Yield rfl rfl rfl ?_)
    (try ((with_reducible show wpAny _ _ _ _ _ _); k_fold)); (repeat' (first | (k_unfold; (try dsimp only)) | (k_end; wrow_close) | ((with_reducible show wpAny _ _ (storeName _ _ _) _ _ _); k_dflt (k_here; (refine' store_sized ?F ?N ?hl ?hp ?_; (case F => k_asm); (case N => k_asm); (case hl => exact rfl); (case hp => exact rfl)); intro _ _ F9 N9; (dsimp only [envOf] at F9 N9); revert F9 N9; intro _ _)) | walk1 | (dsimp only; walk1) | (leave1; walk_say "STEP leave1"; try dsimp only) | fail "no step"))
    rename_i kap hkap
    (rename Fr _ _ _ _ => F4)
    (rename News _ _ _ _ => N4)
    refine y_here rfl cov F4 N4 ?_
    intro _ s4 hsame hkept
    refine hkap .none s4 ?_
    clear hkap
    obtain ⟨rest5, F5, N5, cov5, hne5⟩ := cov_resume F4 N4 hne hsame hkept
    clear F4 N4 hne cov hsame hkept
    dsimp only
    refine seg_execs_cons (seg_exec ?_)
    (try ((with_reducible show wpAny _ _ _ _ _ _); k_fold)); (repeat' (first | (k_unfold; (try dsimp only)) | (k_end; wrow_close) | ((with_reducible show wpAny _ _ (storeName _ _ _) _ _ _); k_dflt (k_here; (refine' store_sized ?F ?N ?hl ?hp ?_; (case F => k_asm); (case N => k_asm); (case hl => exact rfl); (case hp => exact rfl)); intro _ _ F9 N9; (dsimp only [envOf] at F9 N9); revert F9 N9; intro _ _)) | walk1 | (dsimp only; walk1) | (leave1; walk_say "STEP leave1"; try dsimp only) | fail "no step"))
    refine seg_execs_nil ?_
    dsimp only
    refine seg_again rfl ?_
    clear F5 N5
    rename (Fr _ _ _ _) => F
    rename (News _ _ _ _) => N
    have hne := hne5
    have cov := cov5
    clear hne5 cov5
    have hit := hit1
    clear hit1
    refine seg_forLoop ?_
    refine g_item F N hne hit (v := .int b tb) (by rw [hvs]; rfl) ?_
    intro h3 it1 hit1 F3 N3
    clear hit F N
    dsimp only
    (try ((with_reducible show wpAny _ _ _ _ _ _); k_fold)); (repeat' (first | (k_unfold; (try dsimp only)) | (k_end; wrow_close) | ((with_reducible show wpAny _ _ (storeName _ _ _) _ _ _); k_dflt (k_here; (refine' store_sized ?F ?N ?hl ?hp ?_; (case F => k_asm); (case N => k_asm); (case hl => exact rfl); (case hp => exact rfl)); intro _ _ F9 N9; (dsimp only [envOf] at F9 N9); revert F9 N9; intro _ _)) | walk1 | (dsimp only; walk1) | (leave1; walk_say "STEP leave1"; try dsimp only) | fail "no step"))
    clear F3 N3
    refine seg_execs_cons (seg_If ?_)
    (try ((with_reducible show wpAny _ _ _ _ _ _); k_fold)); (repeat' (first | (k_unfold; (try dsimp only)) | (k_end; wrow_close) | ((with_reducible show wpAny _ _ (storeName _ _ _) _ _ _); k_dflt (k_here; (refine' store_sized ?F ?N ?hl ?hp ?_; (case F => k_asm); (case N => k_asm); (case hl => exact rfl); (case hp => exact rfl)); intro _ _ F9 N9; (dsimp only [envOf] at F9 N9); revert F9 N9; intro _ _)) | walk1 | (dsimp only; walk1) | (leave1; walk_say "STEP leave1"; try dsimp only) | fail "no step"))
    · exact absurd (by assumption) hb.2
    refine seg_execs_nil ?_
    dsimp only
    refine seg_execs_cons (seg_If ?_)
    (try ((with_reducible show wpAny _ _ _ _ _ _); k_fold)); (repeat' (first | (k_unfold; (try dsimp only)) | (k_end; wrow_close) | ((with_reducible show wpAny _ _ (storeName _ _ _) _ _ _); k_dflt (k_here; (refine' store_sized ?F ?N ?hl ?hp ?_; (case F => k_asm); (case N => k_asm); (case hl => exact rfl); (case hp => exact rfl)); intro _ _ F9 N9; (dsimp only [envOf] at F9 N9); revert F9 N9; intro _ _)) | walk1 | (dsimp only; walk1) | (leave1; walk_say "STEP leave1"; try dsimp only) | fail "no step"))
    · exact absurd (by assumption) hb.1
    refine seg_execs_nil ?_
    dsimp only
    refine seg_execs_cons (seg_Expr_Yield rfl rfl rfl ?_)
    (try ((with_reducible show wpAny _ _ _ _ _ _); k_fold)); (repeat' (first | (k_unfold; (try dsimp only)) | (k_end; wrow_close) | ((with_reducible show wpAny _ _ (storeName _ _ _) _ _ _); k_dflt (k_here; (refine' store_sized ?F ?N ?hl ?hp ?_; (case F => k_asm); (case N => k_asm); (case hl => exact rfl); (case hp => exact rfl)); intro _ _ F9 N9; (dsimp only [envOf] at F9 N9); revert F9 N9; intro _ _)) | walk1 | (dsimp only; walk1) | (leave1; walk_say "STEP leave1"; try dsimp only) | fail "no step"))
    rename_i kap hkap
    (rename Fr _ _ _ _ => F4)
    (rename News _ _ _ _ => N4)
    refine y_here rfl cov F4 N4 ?_
    intro _ s4 hsame hkept
    refine hkap .none s4 ?_
    clear hkap
    obtain ⟨rest5, F5, N5, cov5, hne5⟩ := cov_resume F4 N4 hne hsame hkept
    clear F4 N4 hne cov hsame hkept
    dsimp only
    refine seg_execs_cons (seg_exec ?_)
    (try ((with_reducible show wpAny _ _ _ _ _ _); k_fold)); (repeat' (first | (k_unfold; (try dsimp only)) | (k_end; wrow_close) | ((with_reducible show wpAny _ _ (storeName _ _ _) _ _ _); k_dflt (k_here; (refine' store_sized ?F ?N ?hl ?hp ?_; (case F => k_asm); (case N => k_asm); (case hl => exact rfl); (case hp => exact rfl)); intro _ _ F9 N9; (dsimp only [envOf] at F9 N9); revert F9 N9; intro _ _)) | walk1 | (dsimp only; walk1) | (leave1; walk_say "STEP leave1"; try dsimp only) | fail "no step"))
    refine seg_execs_nil ?_
    dsimp only
    refine seg_again rfl ?_
    clear F5 N5
    rename (Fr _ _ _ _) => F
    rename (News _ _ _ _) => N
    have hne := hne5
    have cov := cov5
    clear hne5 cov5
    have hit := hit1
    clear hit1
    refine seg_forLoop ?_
    refine g_item F N hne hit (v := .int 127 tc) (by rw [hvs]; rfl) ?_
    intro h3 it1 hit1 F3 N3
    clear hit F N
    dsimp only
    (try ((with_reducible show wpAny _ _ _ _ _ _); k_fold)); (repeat' (first | (k_unfold; (try dsimp only)) | (k_end; wrow_close) | ((with_reducible show wpAny _ _ (storeName _ _ _) _ _ _); k_dflt (k_here; (refine' store_sized ?F ?N ?hl ?hp ?_; (case F => k_asm); (case N => k_asm); (case hl => exact rfl); (case hp => exact rfl)); intro _ _ F9 N9; (dsimp only [envOf] at F9 N9); revert F9 N9; intro _ _)) | walk1 | (dsimp only; walk1) | (leave1; walk_say "STEP leave1"; try dsimp only) | fail "no step"))
    clear F3 N3
    refine seg_execs_cons (seg_If ?_)
    (try ((with_reducible show wpAny _ _ _ _ _ _); k_fold)); (repeat' (first | (k_unfold; (try dsimp only)) | (k_end; wrow_close) | ((with_reducible show wpAny _ _ (storeName _ _ _) _ _ _); k_dflt (k_here; (refine' store_sized ?F ?N ?hl ?hp ?_; (case F => k_asm); (case N => k_asm); (case hl => exact rfl); (case hp => exact rfl)); intro _ _ F9 N9; (dsimp only [envOf] at F9 N9); revert F9 N9; intro _ _)) | walk1 | (dsimp only; walk1) | (leave1; walk_say "STEP leave1"; try dsimp only) | fail "no step"))
    refine seg_execs_cons (seg_exec ?_)
    (try ((with_reducible show wpAny _ _ _ _ _ _); k_fold)); (repeat' (first | (k_unfold; (try dsimp only)) | (k_end; wrow_close) | ((with_reducible show wpAny _ _ (storeName _ _ _) _ _ _); k_dflt (k_here; (refine' store_sized ?F ?N ?hl ?hp ?_; (case F => k_asm); (case N => k_asm); (case hl => exact rfl); (case hp => exact rfl)); intro _ _ F9 N9; (dsimp only [envOf] at F9 N9); revert F9 N9; intro _ _)) | walk1 | (dsimp only; walk1) | (leave1; walk_say "STEP leave1"; try dsimp only) | fail "no step"))
    refine seg_leaf (.ok (.ret .none)) ?_
    (rename Fr _ _ _ _ => F3)
    (rename News _ _ _ _ => N5)
    have N3 := fun q hq => (N5 q (List.mem_cons_of_mem _ hq)).1
    refine seg_end (.ok (.ret .none)) ?_
    exact r_here cov F3 N3
theorem gen_nought (w : World) (mean : ExcName → Option Value) (mg mb : Str → Option Value) {A : Around} {E : Value → Shared → Prop} {s : Shared} {L l : Addr} {h₀ : Heap} {m : Str → Option Value} {news : List (Addr × Obj)} {vs : List Value} {nn : Nat} {Q : Value → Shared → Prop}
    {a b : Int} {ta tb tc td : Tok} (ha : a ≠ 0 ∧ a ≠ 127) (hb : b ≠ 0 ∧ b ≠ 127) (hvs : vs = [.int a ta, .int b tb, .int 0 tc, .int 5 td])
    (F : Fr h₀ L s.heap m) (X : (hd.heap_39 w.params).In h₀) (N : News h₀ L s.heap news) (T : Top PV [] mean mg mb h₀) (hroom : A.depth < recursionLimit)
    (h : ∀ C G oC oG h' tk gs, Fr h₀ L h' m → News h₀ L h' ((G, oG) :: (C, oC) :: news) → (∀ q ∈ news, q.1 < C) → C < G → h'.Ns C (fun y => [(Str.ofString "grouping", Value.ref l)].reverse.lookup y) → h'.IsGen G s.gens.size → h₀.objs.size ≤ C → gs.bare = true →
      GFresh w h₀ C l (lstO vs nn) [a, b, b, b, b] false gs → Q (.ref G) { s with heap := h', gens := s.gens.push gs, toks := tk }) :
    wpAny (model PR w) A (call (.ref 35) [.ref l]) Q E s := by
  refine' gen_make F X N T ?ho ?hcd hroom ?hbind ?hloc ?hh ?c1 ?c2 ?c3 ?c4
  case ho => k_is
  case hcd => k_is
  case hbind => exact BindsTo.of_eq rfl
  case hloc => exact locs rfl
  case c1 => exact rfl
  case c2 => exact rfl
  case c3 => exact rfl
  case c4 => decide
  case hh =>
    intro C G oC oG h' tk F' N' hlC hCG hns hgen hsz
    refine h C G oC oG h' tk _ F' N' hlC hCG hns hgen hsz rfl ?_
    clear h hgen hns hlC hCG F' N' h' tk oC oG G N F
    intro A1 s hh F hl0 hlC hls
    obtain ⟨It, hIt⟩ : ∃ It, It = s.heap.objs.size := ⟨_, rfl⟩
    rw [← hIt]
    obtain ⟨rest, N, cov, _⟩ := cov_start (It := It) F hls hl0 hlC
    refine ⟨rfl, seg_func ?_⟩
    refine seg_execs_cons (seg_exec ?_)
    (try ((with_reducible show wpAny _ _ _ _ _ _); k_fold)); (repeat' (first | (k_unfold; (try dsimp only)) | (k_end; wrow_close) | ((with_reducible show wpAny _ _ (storeName _ _ _) _ _ _); k_dflt (k_here; (refine' store_sized ?F ?N ?hl ?hp ?_; (case F => k_asm); (case N => k_asm); (case hl => exact rfl); (case hp => exact rfl)); intro _ _ F9 N9; (dsimp only [envOf] at F9 N9); revert F9 N9; intro _ _)) | walk1 | (dsimp only; walk1) | (leave1; walk_say "STEP leave1"; try dsimp only) | fail "no step"))
    refine seg_execs_cons (seg_For ?_)
    (try ((with_reducible show wpAny _ _ _ _ _ _); k_fold)); (repeat' (first | (k_unfold; (try dsimp only)) | (k_end; wrow_close) | ((with_reducible show wpAny _ _ (storeName _ _ _) _ _ _); k_dflt (k_here; (refine' store_sized ?F ?N ?hl ?hp ?_; (case F => k_asm); (case N => k_asm); (case hl => exact rfl); (case hp => exact rfl)); intro _ _ F9 N9; (dsimp only [envOf] at F9 N9); revert F9 N9; intro _ _)) | walk1 | (dsimp only; walk1) | (leave1; walk_say "STEP leave1"; try dsimp only) | fail "no step"))
    (rename (_ = Array.size (Heap.objs _)) => hz)
    have hz' := hz.trans hIt.symm
    clear hz hIt
    refine g_iter (by assumption) (by assumption) ?_
    clear F N
    rename_i h1 F1 N1
    clear F1 N1
    intro h2 it0 hit F N hne p
    (try dsimp only at N hne)
    rw [hz'] at N hne
    (try dsimp only)
    rw [hz']
    clear hz'
    refine seg_forLoop ?_
    refine g_item F N hne hit (v := .int a ta) (by rw [hvs]; rfl) ?_
    intro h3 it1 hit1 F3 N3
    clear hit F N
    dsimp only
    (try ((with_reducible show wpAny _ _ _ _ _ _); k_fold)); (repeat' (first | (k_unfold; (try dsimp only)) | (k_end; wrow_close) | ((with_reducible show wpAny _ _ (storeName _ _ _) _ _ _); k_dflt (k_here; (refine' store_sized ?F ?N ?hl ?hp ?_; (case F => k_asm); (case N => k_asm); (case hl => exact rfl); (case hp => exact rfl)); intro _ _ F9 N9; (dsimp only [envOf] at F9 N9); revert F9 N9; intro _ _)) | walk1 | (dsimp only; walk1) | (leave1; walk_say "STEP leave1"; try dsimp only) | fail "no step"))
    clear F3 N3
    refine seg_execs_cons (seg_If ?_)
    (try ((with_reducible show wpAny _ _ _ _ _ _); k_fold)); (repeat' (first | (k_unfold; (try dsimp only)) | (k_end; wrow_close) | ((with_reducible show wpAny _ _ (storeName _ _ _) _ _ _); k_dflt (k_here; (refine' store_sized ?F ?N ?hl ?hp ?_; (case F => k_asm); (case N => k_asm); (case hl => exact rfl); (case hp => exact rfl)); intro _ _ F9 N9; (dsimp only [envOf] at F9 N9); revert F9 N9; intro _ _)) | walk1 | (dsimp only; walk1) | (leave1; walk_say "STEP leave1"; try dsimp only) | fail "no step"))
    · exact absurd (by assumption) ha.2
    refine seg_execs_nil ?_
    dsimp only
    refine seg_execs_cons (seg_If ?_)
    (try ((with_reducible show wpAny _ _ _ _ _ _); k_fold)); (repeat' (first | (k_unfold; (try dsimp only)) | (k_end; wrow_close) | ((with_reducible show wpAny _ _ (storeName _ _ _) _ _ _); k_dflt (k_here; (refine' store_sized ?F ?N ?hl ?hp ?_; (case F => k_asm); (case N => k_asm); (case hl => exact rfl); (case hp => exact rfl)); intro _ _ F9 N9; (dsimp only [envOf] at F9 N9); revert F9 N9; intro _ _)) | walk1 | (dsimp only; walk1) | (leave1; walk_say "STEP leave1"; try dsimp only) | fail "no step"))
    · exact absurd (by assumption) ha.1
    refine seg_execs_nil ?_
    dsimp only
    refine seg_execs_cons (seg_Expr_Yield rfl rfl rfl ?_)
    (try ((with_reducible show wpAny _ _ _ _ _ _); k_fold)); (repeat' (first | (k_unfold; (try dsimp only)) | (k_end; wrow_close) | ((with_reducible show wpAny _ _ (storeName _ _ _) _ _ _); k_dflt (k_here; (refine' store_sized ?F ?N ?hl ?hp ?_; (case F => k_asm); (case N => k_asm); (case hl => exact rfl); (case hp => exact rfl)); intro _ _ F9 N9; (dsimp only [envOf] at F9 N9); revert F9 N9; intro _ _)) | walk1 | (dsimp only; walk1) | (leave1; walk_say "STEP leave1"; try dsimp only) | fail "no step"))
    rename_i kap hkap
    (rename Fr _ _ _ _ => F4)
    (rename News _ _ _ _ => N4)
    refine y_here rfl cov F4 N4 ?_
    intro _ s4 hsame hkept
    refine hkap .none s4 ?_
    clear hkap
    obtain ⟨rest5, F5, N5, cov5, hne5⟩ := cov_resume F4 N4 hne hsame hkept
    clear F4 N4 hne cov hsame hkept
    dsimp only
    refine seg_execs_cons (seg_exec ?_)
    (try ((with_reducible show wpAny _ _ _ _ _ _); k_fold)); (repeat' (first | (k_unfold; (try dsimp only)) | (k_end; wrow_close) | ((with_reducible show wpAny _ _ (storeName _ _ _) _ _ _); k_dflt (k_here; (refine' store_sized ?F ?N ?hl ?hp ?_; (case F => k_asm); (case N => k_asm); (case hl => exact rfl); (case hp => exact rfl)); intro _ _ F9 N9; (dsimp only [envOf] at F9 N9); revert F9 N9; intro _ _)) | walk1 | (dsimp only; walk1) | (leave1; walk_say "STEP leave1"; try dsimp only) | fail "no step"))
    refine seg_execs_nil ?_
    dsimp only
    refine seg_again rfl ?_
    clear F5 N5
    rename (Fr _ _ _ _) => F
    rename (News _ _ _ _) => N
    have hne := hne5
    have cov := cov5
    clear hne5 cov5
    have hit := hit1
    clear hit1
    refine seg_forLoop ?_
    refine g_item F N hne hit (v := .int b tb) (by rw [hvs]; rfl) ?_
    intro h3 it1 hit1 F3 N3
    clear hit F N
    dsimp only
    (try ((with_reducible show wpAny _ _ _ _ _ _); k_fold)); (repeat' (first | (k_unfold; (try dsimp only)) | (k_end; wrow_close) | ((with_reducible show wpAny _ _ (storeName _ _ _) _ _ _); k_dflt (k_here; (refine' store_sized ?F ?N ?hl ?hp ?_; (case F => k_asm); (case N => k_asm); (case hl => exact rfl); (case hp => exact rfl)); intro _ _ F9 N9; (dsimp only [envOf] at F9 N9); revert F9 N9; intro _ _)) | walk1 | (dsimp only; walk1) | (leave1; walk_say "STEP leave1"; try dsimp only) | fail "no step"))
    clear F3 N3
    refine seg_execs_cons (seg_If ?_)
    (try ((with_reducible show wpAny _ _ _ _ _ _); k_fold)); (repeat' (first | (k_unfold; (try dsimp only)) | (k_end; wrow_close) | ((with_reducible show wpAny _ _ (storeName _ _ _) _ _ _); k_dflt (k_here; (refine' store_sized ?F ?N ?hl ?hp ?_; (case F => k_asm); (case N => k_asm); (case hl => exact rfl); (case hp => exact rfl)); intro _ _ F9 N9; (dsimp only [envOf] at F9 N9); revert F9 N9; intro _ _)) | walk1 | (dsimp only; walk1) | (leave1; walk_say "STEP leave1"; try dsimp only) | fail "no step"))
    · exact absurd (by assumption) hb.2
    refine seg_execs_nil ?_
    dsimp only
    refine seg_execs_cons (seg_If ?_)
    (try ((with_reducible show wpAny _ _ _ _ _ _); k_fold)); (repeat' (first | (k_unfold; (try dsimp only)) | (k_end; wrow_close) | ((with_reducible show wpAny _ _ (storeName _ _ _) _ _ _); k_dflt (k_here; (refine' store_sized ?F ?N ?hl ?hp ?_; (case F => k_asm); (case N => k_asm); (case hl => exact rfl); (case hp => exact rfl)); intro _ _ F9 N9; (dsimp only [envOf] at F9 N9); revert F9 N9; intro _ _)) | walk1 | (dsimp only; walk1) | (leave1; walk_say "STEP leave1"; try dsimp only) | fail "no step"))
    · exact absurd (by assumption) hb.1
    refine seg_execs_nil ?_
    dsimp only
    refine seg_execs_cons (seg_Expr_Yield rfl rfl rfl ?_)
    (try ((with_reducible show wpAny _ _ _ _ _ _); k_fold)); (repeat' (first | (k_unfold; (try dsimp only)) | (k_end; wrow_close) | ((with_reducible show wpAny _ _ (storeName _ _ _) _ _ _); k_dflt (k_here; (refine' store_sized ?F ?N ?hl ?hp ?_; (case F => k_asm); (case N => k_asm); (case hl => exact rfl); (case hp => exact rfl)); intro _ _ F9 N9; (dsimp only [envOf] at F9 N9); revert F9 N9; intro _ _)) | walk1 | (dsimp only; walk1) | (leave1; walk_say "STEP leave1"; try dsimp only) | fail "no step"))
    rename_i kap hkap
    (rename Fr _ _ _ _ => F4)
    (rename News _ _ _ _ => N4)
    refine y_here rfl cov F4 N4 ?_
    intro _ s4 hsame hkept
    refine hkap .none s4 ?_
    clear hkap
    obtain ⟨rest5, F5, N5, cov5, hne5⟩ := cov_resume F4 N4 hne hsame hkept
    clear F4 N4 hne cov hsame hkept
    dsimp only
    refine seg_execs_cons (seg_exec ?_)
    (try ((with_reducible show wpAny _ _ _ _ _ _); k_fold)); (repeat' (first | (k_unfold; (try dsimp only)) | (k_end; wrow_close) | ((with_reducible show wpAny _ _ (storeName _ _ _) _ _ _); k_dflt (k_here; (refine' store_sized ?F ?N ?hl ?hp ?_; (case F => k_asm); (case N => k_asm); (case hl => exact rfl); (case hp => exact rfl)); intro _ _ F9 N9; (dsimp only [envOf] at F9 N9); revert F9 N9; intro _ _)) | walk1 | (dsimp only; walk1) | (leave1; walk_say "STEP leave1"; try dsimp only) | fail "no step"))
    refine seg_execs_nil ?_
    dsimp only
    refine seg_again rfl ?_
    clear F5 N5
    rename (Fr _ _ _ _) => F
    rename (News _ _ _ _) => N
    have hne := hne5
    have cov := cov5
    clear hne5 cov5
    have hit := hit1
    clear hit1
    refine seg_forLoop ?_
    refine g_item F N hne hit (v := .int 0 tc) (by rw [hvs]; rfl) ?_
    intro h3 it1 hit1 F3 N3
    clear hit F N
    dsimp only
    (try ((with_reducible show wpAny _ _ _ _ _ _); k_fold)); (repeat' (first | (k_unfold; (try dsimp only)) | (k_end; wrow_close) | ((with_reducible show wpAny _ _ (storeName _ _ _) _ _ _); k_dflt (k_here; (refine' store_sized ?F ?N ?hl ?hp ?_; (case F => k_asm); (case N => k_asm); (case hl => exact rfl); (case hp => exact rfl)); intro _ _ F9 N9; (dsimp only [envOf] at F9 N9); revert F9 N9; intro _ _)) | walk1 | (dsimp only; walk1) | (leave1; walk_say "STEP leave1"; try dsimp only) | fail "no step"))
    clear F3 N3
    refine seg_execs_cons (seg_If ?_)
    (try ((with_reducible show wpAny _ _ _ _ _ _); k_fold)); (repeat' (first | (k_unfold; (try dsimp only)) | (k_end; wrow_close) | ((with_reducible show wpAny _ _ (storeName _ _ _) _ _ _); k_dflt (k_here; (refine' store_sized ?F ?N ?hl ?hp ?_; (case F => k_asm); (case N => k_asm); (case hl => exact rfl); (case hp => exact rfl)); intro _ _ F9 N9; (dsimp only [envOf] at F9 N9); revert F9 N9; intro _ _)) | walk1 | (dsimp only; walk1) | (leave1; walk_say "STEP leave1"; try dsimp only) | fail "no step"))
    refine seg_execs_nil ?_
    dsimp only
    refine seg_execs_cons (seg_If ?_)
    (try ((with_reducible show wpAny _ _ _ _ _ _); k_fold)); (repeat' (first | (k_unfold; (try dsimp only)) | (k_end; wrow_close) | ((with_reducible show wpAny _ _ (storeName _ _ _) _ _ _); k_dflt (k_here; (refine' store_sized ?F ?N ?hl ?hp ?_; (case F => k_asm); (case N => k_asm); (case hl => exact rfl); (case hp => exact rfl)); intro _ _ F9 N9; (dsimp only [envOf] at F9 N9); revert F9 N9; intro _ _)) | walk1 | (dsimp only; walk1) | (leave1; walk_say "STEP leave1"; try dsimp only) | fail "no step"))
    refine seg_execs_cons (seg_If ?_)
    (try ((with_reducible show wpAny _ _ _ _ _ _); k_fold)); (repeat' (first | (k_unfold; (try dsimp only)) | (k_end; wrow_close) | ((with_reducible show wpAny _ _ (storeName _ _ _) _ _ _); k_dflt (k_here; (refine' store_sized ?F ?N ?hl ?hp ?_; (case F => k_asm); (case N => k_asm); (case hl => exact rfl); (case hp => exact rfl)); intro _ _ F9 N9; (dsimp only [envOf] at F9 N9); revert F9 N9; intro _ _)) | walk1 | (dsimp only; walk1) | (leave1; walk_say "STEP leave1"; try dsimp only) | fail "no step"))
    refine seg_execs_nil ?_
    dsimp only
    refine seg_execs_cons (seg_While ?_)
    intro p2
    refine seg_whileLoop ?_
    (try ((with_reducible show wpAny _ _ _ _ _ _); k_fold)); (repeat' (first | (k_unfold; (try dsimp only)) | (k_end; wrow_close) | ((with_reducible show wpAny _ _ (storeName _ _ _) _ _ _); k_dflt (k_here; (refine' store_sized ?F ?N ?hl ?hp ?_; (case F => k_asm); (case N => k_asm); (case hl => exact rfl); (case hp => exact rfl)); intro _ _ F9 N9; (dsimp only [envOf] at F9 N9); revert F9 N9; intro _ _)) | walk1 | (dsimp only; walk1) | (leave1; walk_say "STEP leave1"; try dsimp only) | fail "no step"))
    refine seg_execs_cons (seg_Expr_Yield rfl rfl rfl ?_)
    (try ((with_reducible show wpAny _ _ _ _ _ _); k_fold)); (repeat' (first | (k_unfold; (try dsimp only)) | (k_end; wrow_close) | ((with_reducible show wpAny _ _ (storeName _ _ _) _ _ _); k_dflt (k_here; (refine' store_sized ?F ?N ?hl ?hp ?_; (case F => k_asm); (case N => k_asm); (case hl => exact rfl); (case hp => exact rfl)); intro _ _ F9 N9; (dsimp only [envOf] at F9 N9); revert F9 N9; intro _ _)) | walk1 | (dsimp only; walk1) | (leave1; walk_say "STEP leave1"; try dsimp only) | fail "no step"))
    rename_i kap hkap
    (rename Fr _ _ _ _ => F4)
    (rename News _ _ _ _ => N4)
    refine y_here rfl cov F4 N4 ?_
    intro hz s4 hsame hkept
    refine hkap .none s4 ?_
    clear hkap hz
    obtain ⟨rest5, F5, N5, cov5, hne5⟩ := cov_resume F4 N4 hne hsame hkept
    clear F4 N4 hne cov hsame hkept
    have hne := hne5
    have cov := cov5
    clear hne5 cov5
    dsimp only
    refine seg_execs_nil ?_
    dsimp only
    refine seg_again rfl ?_
    refine seg_whileLoop ?_
    (try ((with_reducible show wpAny _ _ _ _ _ _); k_fold)); (repeat' (first | (k_unfold; (try dsimp only)) | (k_end; wrow_close) | ((with_reducible show wpAny _ _ (storeName _ _ _) _ _ _); k_dflt (k_here; (refine' store_sized ?F ?N ?hl ?hp ?_; (case F => k_asm); (case N => k_asm); (case hl => exact rfl); (case hp => exact rfl)); intro _ _ F9 N9; (dsimp only [envOf] at F9 N9); revert F9 N9; intro _ _)) | walk1 | (dsimp only; walk1) | (leave1; walk_say "STEP leave1"; try dsimp only) | fail "no step"))
    refine seg_execs_cons (seg_Expr_Yield rfl rfl rfl ?_)
    (try ((with_reducible show wpAny _ _ _ _ _ _); k_fold)); (repeat' (first | (k_unfold; (try dsimp only)) | (k_end; wrow_close) | ((with_reducible show wpAny _ _ (storeName _ _ _) _ _ _); k_dflt (k_here; (refine' store_sized ?F ?N ?hl ?hp ?_; (case F => k_asm); (case N => k_asm); (case hl => exact rfl); (case hp => exact rfl)); intro _ _ F9 N9; (dsimp only [envOf] at F9 N9); revert F9 N9; intro _ _)) | walk1 | (dsimp only; walk1) | (leave1; walk_say "STEP leave1"; try dsimp only) | fail "no step"))
    rename_i kap hkap
    (rename Fr _ _ _ _ => F4)
    (rename News _ _ _ _ => N4)
    refine y_here rfl cov F4 N4 ?_
    intro hz s4 hsame hkept
    refine hkap .none s4 ?_
    clear hkap hz
    obtain ⟨rest5, F5, N5, cov5, hne5⟩ := cov_resume F4 N4 hne hsame hkept
    clear F4 N4 hne cov hsame hkept
    have hne := hne5
    have cov := cov5
    clear hne5 cov5
    dsimp only
    refine seg_execs_nil ?_
    dsimp only
    refine seg_again rfl ?_
    refine seg_whileLoop ?_
    (try ((with_reducible show wpAny _ _ _ _ _ _); k_fold)); (repeat' (first | (k_unfold; (try dsimp only)) | (k_end; wrow_close) | ((with_reducible show wpAny _ _ (storeName _ _ _) _ _ _); k_dflt (k_here; (refine' store_sized ?F ?N ?hl ?hp ?_; (case F => k_asm); (case N => k_asm); (case hl => exact rfl); (case hp => exact rfl)); intro _ _ F9 N9; (dsimp only [envOf] at F9 N9); revert F9 N9; intro _ _)) | walk1 | (dsimp only; walk1) | (leave1; walk_say "STEP leave1"; try dsimp only) | fail "no step"))
    refine seg_execs_cons (seg_Expr_Yield rfl rfl rfl ?_)
    (try ((with_reducible show wpAny _ _ _ _ _ _); k_fold)); (repeat' (first | (k_unfold; (try dsimp only)) | (k_end; wrow_close) | ((with_reducible show wpAny _ _ (storeName _ _ _) _ _ _); k_dflt (k_here; (refine' store_sized ?F ?N ?hl ?hp ?_; (case F => k_asm); (case N => k_asm); (case hl => exact rfl); (case hp => exact rfl)); intro _ _ F9 N9; (dsimp only [envOf] at F9 N9); revert F9 N9; intro _ _)) | walk1 | (dsimp only; walk1) | (leave1; walk_say "STEP leave1"; try dsimp only) | fail "no step"))
    rename_i kap hkap
    (rename Fr _ _ _ _ => F4)
    (rename News _ _ _ _ => N4)
    refine y_here rfl cov F4 N4 ?_
    intro hz s4 hsame hkept
    rcases hz with hz | hz
    · exact absurd rfl hz
    · cases hz
end Mine
end

section -- G5
open PySem PySem.W PyProof.Rows PyProof.V PySem.Spec
set_option maxRecDepth 100000
set_option maxHeartbeats 8000000
namespace Mine
/-- the end of a turn of the loop over the generator's items -/
noncomputable def GEnd (h₀ : Heap) (L : Addr) (own news0 : List (Addr × Obj)) (Jn : (Str → Option Value) → List (Addr × Obj) → Prop) (s₁ : Shared) (last : Prop) (f : Flow) (s₂ : Shared) : Prop :=
  ((f = .brk ∧ last) ∨ (f = .next ∧ ¬ last)) ∧ ∃ h' tk m' news', s₂ = { s₁ with heap := h', toks := tk } ∧ Fr h₀ L h' m' ∧ News h₀ L h' (own ++ news') ∧ news'.map (·.1) = news0.map (·.1) ∧ Jn m' news'
theorem GEnd.brk {h₀ : Heap} {L : Addr} {own news0 news' : List (Addr × Obj)} {Jn : (Str → Option Value) → List (Addr × Obj) → Prop} {s₁ : Shared} {last : Prop} {h' : Heap} {tk : Nat} {m' : Str → Option Value}
    (hl : last) (F : Fr h₀ L h' m') (N : News h₀ L h' (own ++ news')) (e : news'.map (·.1) = news0.map (·.1)) (J : Jn m' news') : GEnd h₀ L own news0 Jn s₁ last .brk { s₁ with heap := h', toks := tk } :=
  ⟨.inl ⟨rfl, hl⟩, h', tk, m', news', rfl, F, N, e, J⟩
theorem GEnd.next {h₀ : Heap} {L : Addr} {own news0 news' : List (Addr × Obj)} {Jn : (Str → Option Value) → List (Addr × Obj) → Prop} {s₁ : Shared} {last : Prop} {h' : Heap} {tk : Nat} {m' : Str → Option Value}
    (hl : ¬ last) (F : Fr h₀ L h' m') (N : News h₀ L h' (own ++ news')) (e : news'.map (·.1) = news0.map (·.1)) (J : Jn m' news') : GEnd h₀ L own news0 Jn s₁ last .next { s₁ with heap := h', toks := tk } :=
  ⟨.inr ⟨rfl, hl⟩, h', tk, m', news', rfl, F, N, e, J⟩
/-- the For statement, up to its loop -/
noncomputable def GLoop (w : World) (A : Around) (env : Env) (tgt : Expr) (body : List Stmt) (Q : Flow → Shared → Prop) (E : Value → Shared → Prop) (it : Value) (s₂ : Shared) : Prop :=
  codeAny (model PR w) A (.forLoop tgt it body [] env) (fun r s' => match r with | .ok f => Q f s' | .error e => cameBackBy (model PR w) A env E e s') s₂
theorem for_g {w : World} {A : Around} {E : Value → Shared → Prop} {s : Shared} {env : Env} {Q : Flow → Shared → Prop} {tgt iter : Expr} {body : List Stmt} {pos : Pos}
    (h : wpAny (model PR w) A (eval iter env) (fun xv s₁ => wpAny (model PR w) A (pyIter xv) (fun it s₂ => GLoop w A env tgt body Q E it s₂) E s₁) E s)
    (hs : ∀ x, foldedSetIterable iter env x = pure x := by intro _; rfl) : wpAny (model PR w) A (exec (.For tgt iter body [] pos) env) Q E s := wpAny_For h hs
theorem g_loop {w : World} {mean : ExcName → Option Value} {mg mb : Str → Option Value} {A : Around} {E : Value → Shared → Prop} {s : Shared} {env : Env} {h₀ : Heap} {m : Str → Option Value} {news : List (Addr × Obj)} {x : Str} {px : Pos} {body : List Stmt} {Q : Flow → Shared → Prop}
    {C G l : Addr} {oC oG lst : Obj} {items : List Int} {ended : Bool} {gs : GenState} {gi : Nat} (cnt : Nat) (hcnt : 0 < cnt) (hend : ended = true ∨ cnt ≤ items.length) (hpos : 0 < items.length)
    (hh : A.handled = none) (hroom : A.depth < recursionLimit) (T : Top PV [] mean mg mb h₀) (hx : env.kindOf x = some .local)
    (hp : (env.scope.kind == .class || (env.scope.kind == .module && env.locals != env.globals)) = false)
    (hE : PassesOwn (model PR w) A env E)
    (F : Fr h₀ env.locals s.heap m) (N : News h₀ env.locals s.heap ((G, oG) :: (C, oC) :: (l, lst) :: news)) (hlC : l ≠ C) (hGC : C < G) (hnC : ∀ q ∈ news, q.1 ≠ C) (hnG : ∀ q ∈ news, q.1 ≠ G) (hlG : l ≠ G)
    (hns : s.heap.Ns C (fun y => [(Str.ofString "grouping", Value.ref l)].reverse.lookup y)) (hC0 : h₀.objs.size ≤ C) (hg : s.heap.IsGen G gi) (hgs : s.gens[gi]? = some gs) (hbare : gs.bare = true) (GF : GFresh w h₀ C l lst items ended gs)
    (J : Nat → (Str → Option Value) → List (Addr × Obj) → Prop) (h0 : J 0 m news)
    (step : ∀ i y t It oI oC' m₁ news₁ h tk g₁, items[i]? = some y → i < cnt → J i m₁ news₁ → (∀ q ∈ news₁, q.1 ≠ It) → Fr h₀ env.locals h (fun z => if z = x then some (.int y t) else m₁ z) → News h₀ env.locals h ([(It, oI), (C, oC'), (l, lst), (G, oG)] ++ news₁) →
      wpAny (model PR w) A (execs body env) (GEnd h₀ env.locals [(It, oI), (C, oC'), (l, lst), (G, oG)] news (J (i + 1)) { s with heap := h, gens := g₁, toks := tk } (i + 1 = cnt)) E { s with heap := h, gens := g₁, toks := tk })
    (done : ∀ h' tk g' m' news', GenOnlyQ gi s.gens g' → Fr h₀ env.locals h' m' → News h₀ env.locals h' ([(l, lst), (G, oG)] ++ news') → J (min cnt items.length) m' news' → Q .next { s with heap := h', gens := g', toks := tk })
    : GLoop w A env (.Name x px) body Q E (.ref G) s := by
  unfold GLoop
  have Fl : ∀ {h' m'}, Fr h₀ env.locals h' m' → gKept h₀ h' := fun F => F.keep
  let Inv : Nat → Shared → Prop := fun k s' => (k = cnt + 1 ∧ s' = s) ∨ ∃ (i : Nat) (It : Addr) (h' : Heap) (tk : Nat) (g' : Array GenState) (gs' : GenState) (m' : Str → Option Value) (news' : List (Addr × Obj)) (oC' oI : Obj),
    0 < i ∧ i < cnt ∧ i ≤ items.length ∧ k = cnt + 1 - i ∧ s' = { s with heap := h', gens := g', toks := tk } ∧ J i m' news' ∧ Fr h₀ env.locals h' m' ∧ News h₀ env.locals h' ([(It, oI), (C, oC'), (l, lst), (G, oG)] ++ news') ∧ news'.map (·.1) = news.map (·.1) ∧
    (It ≠ C ∧ It ≠ l ∧ It ≠ G ∧ ∀ a ∈ news.map (·.1), a ≠ It) ∧ g'[gi]? = some gs' ∧ gs'.bare = true ∧ GenOnlyQ gi s.gens g' ∧ h'.IsGen G gi ∧
    ∀ s'' : Shared, s''.heap.get? C = some oC' → s''.heap.get? It = some oI → s''.heap.get? l = some lst → gKept h₀ s''.heap → gs'.Goes (model PR w) A.in1 (gR C It) (gY h₀ C It l items ended) (items.length - i) (.send .none) s''
  have isg : ∀ {h' : Heap} {own : List (Addr × Obj)}, News h₀ env.locals h' own → (G, oG) ∈ own → h'.IsGen G gi := fun N' hm => by
    obtain ⟨o, nm, qn, ho, r⟩ := hg
    have e := (N _ (.head _)).1
    rw [ho] at e; cases e
    exact ⟨_, nm, qn, (N' _ hm).1, r⟩
  have tail : ∀ (i : Nat) (It : Addr) (h₁ : Heap) (tk₁ : Nat) (g₁ : Array GenState) (gs' : GenState) (m' : Str → Option Value) (news' : List (Addr × Obj)) (oC' oI : Obj) (y : Int) (t : Tok),
      i < cnt → items[i]? = some y → J i m' news' → Fr h₀ env.locals h₁ m' → News h₀ env.locals h₁ ([(It, oI), (C, oC'), (l, lst), (G, oG)] ++ news') → news'.map (·.1) = news.map (·.1) →
      (It ≠ C ∧ It ≠ l ∧ It ≠ G ∧ ∀ a ∈ news.map (·.1), a ≠ It) → g₁[gi]? = some gs' → gs'.bare = true → GenOnlyQ gi s.gens g₁ →
      ((items.length - (i + 1) ≠ 0 ∨ ended = true) → ∀ s'' : Shared, s''.heap.get? C = some oC' → s''.heap.get? It = some oI → s''.heap.get? l = some lst → gKept h₀ s''.heap → gs'.Goes (model PR w) A.in1 (gR C It) (gY h₀ C It l items ended) (items.length - (i + 1)) (.send .none) s'') →
      wpAny (model PR w) A (assign (.Name x px) env (.int y t)) (fun _ s₂ => wpAny (model PR w) A (execs body env) (fun f s₃ => match f with
          | .next | .cont => ∃ k, k < cnt + 1 - i ∧ Inv k s₃
          | .brk => Q .next s₃
          | .ret v => Q (.ret v) s₃) (notedBy (model PR w) A env (cameBackBy (model PR w) A env E)) s₂) (notedBy (model PR w) A env (cameBackBy (model PR w) A env E)) { s with heap := h₁, gens := g₁, toks := tk₁ } := by
    intro i It h₁ tk₁ g₁ gs' m' news' oC' oI y t hi hy hJ F' N' hmap hit hg' hb' hG' hc
    refine wpAny_assign_Name (wpAny_storeName_local hx F'.ns (fun h₂ hn₂ hs₂ => ?_) hp)
    refine wpAny_passesOwn hE (wpAny_mono (step i y t It oI oC' m' news' h₂ _ g₁ hy hi hJ (fun q hq => hit.2.2.2 _ (hmap ▸ List.mem_map_of_mem (f := (·.1)) hq)) (F'.set hn₂ hs₂) (N'.set hs₂)) (fun f s₃ h₃ => ?_) fun _ _ e => e)
    obtain ⟨hf, h', tk, m₂, news₂, rfl, F₂, N₂, hmap₂, hJ₂⟩ := h₃
    have hlen : i < items.length := (List.getElem?_eq_some_iff.mp hy).1
    rcases hf with ⟨rfl, hl⟩ | ⟨rfl, hl⟩
    · refine done h' tk g₁ m₂ news₂ hG' F₂ (news_sub N₂ fun q hq => List.mem_cons_of_mem _ (List.mem_cons_of_mem _ hq)) ?_
      rw [show min cnt items.length = i + 1 by omega]; exact hJ₂
    · have hlt : i + 1 < cnt := by omega
      refine ⟨cnt + 1 - (i + 1), by omega, .inr ⟨i + 1, It, h', tk, g₁, gs', m₂, news₂, oC', oI, Nat.succ_pos _, hlt, hlen, rfl, rfl, hJ₂, F₂, N₂, hmap₂, hit, hg', hb', hG', isg N₂ (by simp), hc ?_⟩⟩
      rcases hend with e | e
      · exact .inr e
      · exact .inl (by omega)
  refine codeAny_forLoop Inv ?_ (cnt + 1) (.inl ⟨rfl, rfl⟩)
  intro k s' hI
  (show wpAny _ _ _ _ _ _; k_fold)
  obtain (⟨hk0, hs0⟩ | ⟨i, It, h', tk, g', gs', m', news', oC', oI, hi0, hic, hil, hk0, hs0, hJ, F', N', hmap, hit, hg', hb', hG', hisg, hgo⟩) := hI
  all_goals subst hk0 hs0
  · have e0 : items.length = (items.length - 1) + 1 := by omega
    have hCN := N (C, oC) (.tail _ (.head _))
    have hlN := N (l, lst) (.tail _ (.tail _ (.head _)))
    have FC : Fr h₀ C (s'.setGen gi .running).heap (fun y => [(Str.ofString "grouping", Value.ref l)].reverse.lookup y) := ⟨hns, F.keep, hC0⟩
    have hgo := GF A.in1 (s'.setGen gi .running) hh FC hlN.2.2 hlC hlN.1
    refine next_genQ hh (T.nolimit.keeps F.keep) hroom hg hgs hgo (fun v s₁ gs' hb hv => ?_) (fun s₁ hP h' hk => ?_)
    · obtain ⟨⟨y, t, hy, rfl⟩, ⟨h₁, tk₁, rfl, hk₁⟩, ⟨oC', oI, hC', hI'⟩, hκ⟩ := hv
      have hne : ∀ q ∈ (G, oG) :: (C, oC) :: (l, lst) :: news, q.1 ≠ s'.heap.objs.size := fun q hq => Nat.ne_of_lt (Heap.lt_size (N q hq).1)
      have hI0 : h₀.get? s'.heap.objs.size = none := by
        cases e : h₀.get? s'.heap.objs.size with
        | none => rfl
        | some o => exact absurd (Heap.lt_size (F.keep _ o e)) (Nat.lt_irrefl _)
      have hLI : s'.heap.objs.size ≠ env.locals := fun e => absurd F.ns.lt (by rw [← e]; exact Nat.lt_irrefl _)
      refine tail 0 s'.heap.objs.size h₁ tk₁ _ gs' m news oC' oI y t hcnt (by rw [← hy]; congr 1; omega) h0 ⟨F.ns.at' fun o e => hk₁ _ o (Ne.symm hCN.2.1) (Ne.symm hLI) e, fun b o e => hk₁ b o (fun e2 => ?_) (fun e2 => ?_) (F.keep b o e), F.above⟩ (fun q hq => ?_) rfl
        ⟨Ne.symm (hne (C, oC) (by simp)), Ne.symm (hne (l, lst) (by simp)), Ne.symm (hne (G, oG) (by simp)), fun a ha => ?_⟩ (setGen_self (gs := .running) (setGen_self hgs)) hb (GenOnlyQ.of ((GenOnly.setGen s' gi .running).trans (GenOnly.setGen _ gi gs')) (setGen_self (gs := .running) (setGen_self hgs)) hb) ?_
      · rw [e2, hCN.2.2] at e; cases e
      · have e' : h₀.get? s'.heap.objs.size = some o := by rw [e2] at e; exact e
        rw [hI0] at e'; cases e'
      · simp only [List.cons_append, List.nil_append, List.mem_cons] at hq
        rcases hq with rfl | rfl | rfl | rfl | hq
        · exact ⟨hI', hLI, hI0⟩
        · exact ⟨hC', hCN.2⟩
        · exact ⟨hk₁ _ _ hlC (hne _ (by simp)) hlN.1, hlN.2⟩
        · exact ⟨hk₁ _ _ (Nat.ne_of_gt hGC) (hne _ (by simp)) (N _ (.head _)).1, (N _ (.head _)).2⟩
        · exact ⟨hk₁ _ _ (hnC q hq) (hne q (by simp [hq])) (N q (by simp [hq])).1, (N q (by simp [hq])).2⟩
      · obtain ⟨q, hq, rfl⟩ := List.mem_map.mp ha
        exact hne q (by simp [hq])
      · intro hcond s'' hs1 hs2 hs3 hs4
        have := hκ (by simpa using hcond) s'' (fun b hb o e => ?_) hs4
        · rw [e0] at this
          have e1 : items.length - (0 + 1) = items.length - 1 := by omega
          rw [e1]; exact this
        · rcases hb with rfl | rfl | rfl
          · rw [hC'] at e; cases e; exact hs1
          · rw [hI'] at e; cases e; exact hs2
          · have := hk₁ _ _ hlC (hne (b, lst) (by simp)) hlN.1
            rw [this] at e; cases e; exact hs3
    · exact absurd hP.1 (by omega)
  · have hCN := N' (C, oC') (by simp)
    have hlN := N' (l, lst) (by simp)
    have hIN := N' (It, oI) (by simp)
    have hGN := N' (G, oG) (by simp)
    have hgo' := hgo (({ s with heap := h', gens := g', toks := tk } : Shared).setGen gi .running) hCN.1 hIN.1 hlN.1 F'.keep
    refine next_genQ hh (T.nolimit.keeps F'.keep) hroom hisg hg' hgo' (fun v s₁ gs'' hb hv => ?_) (fun s₁ hP h'' hk => ?_)
    · obtain ⟨⟨y, t, hy, rfl⟩, ⟨h₁, tk₁, rfl, hk₁⟩, ⟨oC'', oI'', hC', hI'⟩, hκ⟩ := hv
      have hnoff : ∀ q ∈ news', q.1 ≠ C ∧ q.1 ≠ It := fun q hq => by
        have hm : q.1 ∈ news.map (·.1) := hmap ▸ List.mem_map_of_mem (f := (·.1)) hq
        refine ⟨fun e => ?_, hit.2.2.2 _ hm⟩
        obtain ⟨q', hq', e'⟩ := List.mem_map.mp hm
        exact hnC q' hq' (e'.trans e)
      have F₁ : Fr h₀ env.locals h₁ m' := ⟨F'.ns.at' fun o e => hk₁ _ o (Ne.symm hCN.2.1) (Ne.symm hIN.2.1) e, fun b o e => hk₁ b o (fun e2 => by rw [e2, hCN.2.2] at e; cases e) (fun e2 => by rw [e2, hIN.2.2] at e; cases e) (F'.keep b o e), F'.above⟩
      have hl1 : h₁.get? l = some lst := hk₁ _ _ hlC (Ne.symm hit.2.1) hlN.1
      have N₁ : News h₀ env.locals h₁ ([(It, oI''), (C, oC''), (l, lst), (G, oG)] ++ news') := fun q hq => by
        simp only [List.cons_append, List.nil_append, List.mem_cons] at hq
        rcases hq with rfl | rfl | rfl | rfl | hq
        · exact ⟨hI', hIN.2⟩
        · exact ⟨hC', hCN.2⟩
        · exact ⟨hl1, hlN.2⟩
        · exact ⟨hk₁ _ _ (Nat.ne_of_gt hGC) (Ne.symm hit.2.2.1) hGN.1, hGN.2⟩
        · exact ⟨hk₁ _ _ (hnoff q hq).1 (hnoff q hq).2 (N' q (by simp [hq])).1, (N' q (by simp [hq])).2⟩
      have hG₂ : GenOnlyQ gi s.gens ((({ s with heap := h', gens := g', toks := tk } : Shared).setGen gi .running).gens.setIfInBounds gi gs'') :=
        hG'.trans (GenOnlyQ.of ((GenOnly.setGen ({ s with heap := h', gens := g', toks := tk } : Shared) gi .running).trans (GenOnly.setGen _ gi gs'')) (setGen_self (gs := .running) (setGen_self hg')) hb)
      by_cases hil' : i = items.length
      · exfalso
        have hen : ended = true := hend.resolve_right (by omega)
        have := hκ (.inr hen) _ (fun _ _ _ e => e) F₁.keep
        rw [hil', Nat.sub_self] at this
        exact this
      · have e0 : items.length - i = (items.length - (i + 1)) + 1 := by omega
        refine tail i It h₁ tk₁ _ gs'' m' news' oC'' oI'' y t hic (by rw [← hy]; congr 1; omega) hJ F₁ N₁ hmap hit (setGen_self (gs := .running) (setGen_self hg')) hb hG₂ ?_
        intro hcond s'' hs1 hs2 hs3 hs4
        have := hκ (by rw [show items.length - i - 1 = items.length - (i + 1) by omega]; exact hcond) s'' (fun b hb o e => ?_) hs4
        · rw [e0] at this
          exact this
        · rcases hb with rfl | rfl | rfl
          · rw [hC'] at e; cases e; exact hs1
          · rw [hI'] at e; cases e; exact hs2
          · rw [hl1] at e; cases e; exact hs3
    · obtain ⟨hn, h₁, tk₁, rfl, hk₁⟩ := hP
      have hil' : i = items.length := by omega
      have hkk : ∀ b o, b ≠ C → b ≠ It → h'.get? b = some o → h''.get? b = some o := fun b o h1 h2 e => hk b o (hk₁ b o h1 h2 e)
      have hnoff : ∀ q ∈ news', q.1 ≠ C ∧ q.1 ≠ It := fun q hq => by
        have hm : q.1 ∈ news.map (·.1) := hmap ▸ List.mem_map_of_mem (f := (·.1)) hq
        refine ⟨fun e => ?_, hit.2.2.2 _ hm⟩
        obtain ⟨q', hq', e'⟩ := List.mem_map.mp hm
        exact hnC q' hq' (e'.trans e)
      refine wpAny_execs_nil (done h'' tk₁ _ m' news' (hG'.trans (GenOnlyQ.of ((GenOnly.setGen ({ s with heap := h', gens := g', toks := tk } : Shared) gi .running).trans (GenOnly.setGen _ gi .finished)) (setGen_self (gs := .running) (setGen_self hg')) rfl)) ⟨F'.ns.at' fun o e => hkk _ o (Ne.symm hCN.2.1) (Ne.symm hIN.2.1) e, fun b o e => hkk b o (fun e2 => by rw [e2, hCN.2.2] at e; cases e) (fun e2 => by rw [e2, hIN.2.2] at e; cases e) (F'.keep b o e), F'.above⟩ (fun q hq => ?_) ?_)
      · simp only [List.cons_append, List.nil_append, List.mem_cons] at hq
        rcases hq with rfl | rfl | hq
        · exact ⟨hkk _ _ hlC (Ne.symm hit.2.1) hlN.1, hlN.2⟩
        · exact ⟨hkk _ _ (Nat.ne_of_gt hGC) (Ne.symm hit.2.2.1) hGN.1, hGN.2⟩
        · exact ⟨hkk _ _ (hnoff q hq).1 (hnoff q hq).2 (N' q (by simp [hq])).1, (N' q (by simp [hq])).2⟩
      · rw [show min cnt items.length = i by omega]; exact hJ
end Mine
end

section -- G6
open PySem PySem.W PyProof.Rows PyProof.V PySem.Spec
set_option maxRecDepth 100000
set_option maxHeartbeats 8000000
namespace Mine
noncomputable def BareTo (a b : Array GenState) : Prop := AllBare a → AllBare b
theorem BareTo.refl {a : Array GenState} : BareTo a a := id
theorem BareTo.trans {a b c : Array GenState} (x : BareTo a b) (y : BareTo b c) : BareTo a c := fun h => y (x h)
theorem BareTo.push {a : Array GenState} {g : GenState} (h : g.bare = true) : BareTo a (a.push g) := fun x => AllBare.push x h
theorem BareTo.only {a b : Array GenState} {g : Nat} (x : GenOnlyQ g a b) : BareTo a b := fun h => x.bare h
/-- the end of a turn of the enumerating loop -/
noncomputable def EEnd (h₀ : Heap) (L : Addr) (own news0 : List (Addr × Obj)) (Jn : (Str → Option Value) → List (Addr × Obj) → Prop) (s₁ : Shared) (f : Flow) (s₂ : Shared) : Prop :=
  f = .next ∧ ∃ h' tk g' m' news', s₂ = { s₁ with heap := h', gens := g', toks := tk } ∧ BareTo s₁.gens g' ∧ Fr h₀ L h' m' ∧ News h₀ L h' (own ++ news') ∧ news'.map (·.1) = news0.map (·.1) ∧ Jn m' news'
theorem EEnd.intro {h₀ : Heap} {L : Addr} {own news0 news' : List (Addr × Obj)} {Jn : (Str → Option Value) → List (Addr × Obj) → Prop} {s₁ : Shared} {h' : Heap} {tk : Nat} {g' : Array GenState} {m' : Str → Option Value}
    (b : BareTo s₁.gens g') (F : Fr h₀ L h' m') (N : News h₀ L h' (own ++ news')) (e : news'.map (·.1) = news0.map (·.1)) (J : Jn m' news') : EEnd h₀ L own news0 Jn s₁ .next { s₁ with heap := h', gens := g', toks := tk } :=
  ⟨rfl, h', tk, g', m', news', rfl, b, F, N, e, J⟩
section
variable {w : World} {A : Around} {E : Value → Shared → Prop} {s : Shared} {env : Env} {h₀ : Heap} {m : Str → Option Value} {news : List (Addr × Obj)}
theorem e_make {L l : Addr} {vs : List Value} {nn : Nat} {Q : Value → Shared → Prop} (F : Fr h₀ L s.heap m) (N : News h₀ L s.heap news) (hm : (l, lstO vs nn) ∈ news)
    (h : ∀ e it h' oe oi, IsEnum h' e it 0 .none → h'.IsListIter it l 0 → Fr h₀ L h' m → News h₀ L h' ((e, oe) :: (it, oi) :: news) → (∀ q ∈ news, q.1 < it) → it < e → Q (.ref e) { s with heap := h' }) :
    wpAny (model PR w) A (call (.type "enumerate") [.ref l]) Q E s := by
  have hl : s.heap.IsList l vs.toArray := News.isList N hm
  refine call_enumerate_list hl fun h' he hit hz hk => ?_
  obtain ⟨oi, ho, hi⟩ := id hit
  have none0 : ∀ b, s.heap.objs.size ≤ b → h₀.get? b = none := fun b hb => by
    cases e : h₀.get? b with
    | none => rfl
    | some o => exact absurd (Heap.lt_size (F.keep b o e)) (Nat.not_lt.mpr hb)
  have hL : L < s.heap.objs.size := F.ns.lt
  refine h _ _ h' { cls := .type "enumerate", dict := none, data := .fields #[.none, .bool false, .ref s.heap.objs.size, rawInt 0, .none, .none], slots := #[] } oi he hit ⟨F.ns.at' fun o e => hk _ o e, fun b o e => hk b o (F.keep b o e), F.above⟩ (fun q hq => ?_) (fun q hq => Heap.lt_size (N q hq).1) (Nat.lt_succ_self _)
  rcases List.mem_cons.mp hq with e | hq
  · rw [e]; exact ⟨he, fun e2 => absurd hL (by rw [← e2]; exact Nat.not_lt.mpr (Nat.le_succ _)), none0 _ (Nat.le_succ _)⟩
  · rcases List.mem_cons.mp hq with e | hq
    · rw [e]; exact ⟨ho, fun e2 => absurd hL (by rw [← e2]; exact Nat.lt_irrefl _), none0 _ (Nat.le_refl _)⟩
    · exact ⟨hk _ _ (N q hq).1, (N q hq).2⟩
theorem e_iter {e it : Addr} {Q : Value → Shared → Prop} (he : IsEnum s.heap e it 0 .none) (h : Q (.ref e) s) : wpAny (model PR w) A (pyIter (.ref e)) Q E s := wpAny_pyIter_enum he h
theorem e_loop {xi xv : Str} {pi pv pt : Pos} {x1 : Nat} {body : List Stmt} {Q : Flow → Shared → Prop} {e it l : Addr} {oe oi : Obj} {vs : List Value} {nn : Nat}
    (hh : A.handled = none) (hxi : env.kindOf xi = some .local) (hxv : env.kindOf xv = some .local)
    (hp : (env.scope.kind == .class || (env.scope.kind == .module && env.locals != env.globals)) = false)
    (hE : PassesOwn (model PR w) A env E)
    (F : Fr h₀ env.locals s.heap m) (N : News h₀ env.locals s.heap ((e, oe) :: (it, oi) :: (l, lstO vs nn) :: news)) (hei : it ≠ e) (hle : l ≠ e) (hli : l ≠ it) (hne : ∀ q ∈ news, q.1 ≠ e ∧ q.1 ≠ it)
    (he : IsEnum s.heap e it 0 .none) (hit : s.heap.IsListIter it l 0)
    (J : Nat → (Str → Option Value) → List (Addr × Obj) → Prop) (h0 : J 0 m news)
    (step : ∀ i v t oe oi m₁ news₁ h tk g₁, vs[i]? = some v → J i m₁ news₁ → (∀ q ∈ news₁, q.1 ≠ e ∧ q.1 ≠ it) → Fr h₀ env.locals h (fun z => if z = xv then some v else if z = xi then some (.int i t) else m₁ z) → News h₀ env.locals h ([(e, oe), (it, oi), (l, lstO vs nn)] ++ news₁) →
      wpAny (model PR w) A (execs body env) (EEnd h₀ env.locals [(e, oe), (it, oi), (l, lstO vs nn)] news (J (i + 1)) { s with heap := h, gens := g₁, toks := tk }) E { s with heap := h, gens := g₁, toks := tk })
    (done : ∀ h' tk g' m' news', BareTo s.gens g' → Fr h₀ env.locals h' m' → News h₀ env.locals h' ((l, lstO vs nn) :: news') → J vs.length m' news' → Q .next { s with heap := h', gens := g', toks := tk }) :
    GLoop w A env (.Tuple [.Name xi pi, .Name xv pv] x1 pt) body Q E (.ref e) s := by
  unfold GLoop
  have hne' : ∀ news' : List (Addr × Obj), news'.map (·.1) = news.map (·.1) → ∀ q ∈ news', q.1 ≠ e ∧ q.1 ≠ it := fun news' hm q hq => by
    have : q.1 ∈ news.map (·.1) := hm ▸ List.mem_map_of_mem (f := (·.1)) hq
    obtain ⟨q', hq', e'⟩ := List.mem_map.mp this
    rw [← e']; exact hne q' hq'
  refine codeAny_forLoop_any
    (fun k s' => ∃ i h' tk g' m' news' oe oi old, s' = { s with heap := h', gens := g', toks := tk } ∧ BareTo s.gens g' ∧ IsEnum h' e it ((i : Nat) : Int) old ∧ h'.IsListIter it l i ∧ Fr h₀ env.locals h' m' ∧ News h₀ env.locals h' ([(e, oe), (it, oi), (l, lstO vs nn)] ++ news') ∧ news'.map (·.1) = news.map (·.1) ∧ J i m' news' ∧ i ≤ vs.length ∧ k = vs.length + 1 - i) ?_ (vs.length + 1)
    ⟨0, s.heap, s.toks, s.gens, m, news, oe, oi, .none, rfl, .refl, he, hit, F, N, rfl, h0, Nat.zero_le _, rfl⟩
  intro k s' hI
  (show wpAny _ _ _ _ _ _; k_fold)
  obtain ⟨i, H, tk, g', m', news', oe', oi', old, hs0, hb, he', hit', F', N', hmap, hJ, hi, hk0⟩ := hI
  subst hs0 hk0
  have hl' : H.IsList l vs.toArray := News.isList (news := [(e, oe'), (it, oi'), (l, lstO vs nn)] ++ news') (n := nn) N' (.tail _ (.tail _ (.head _)))
  have hn1 := N' (e, oe') (by simp)
  have hn2 := N' (it, oi') (by simp)
  have hn3 := N' (l, lstO vs nn) (by simp)
  cases hv : vs[i]? with
  | none =>
    have hsz : i = vs.length := Nat.le_antisymm hi (by simpa using hv)
    refine wpAny_pyNext_enum_end hh he' hit' hl' (by simpa using hv) fun h₁ he₁ => wpAny_execs_nil ?_
    (try (show wpAny _ _ _ _ _ _; k_fold))
    have hk1 : ∀ b o, b ≠ it → H.get? b = some o → h₁.get? b = some o := fun b o hb e => he₁ b o hb e
    refine done h₁ tk g' m' news' hb ⟨F'.ns.at' fun o e => hk1 _ o (Ne.symm hn2.2.1) e, fun b o e => hk1 b o (fun e2 => by rw [e2, hn2.2.2] at e; cases e) (F'.keep b o e), F'.above⟩ (fun q hq => ?_) (hsz ▸ hJ)
    rcases List.mem_cons.mp hq with e3 | hq
    · rw [e3]; exact ⟨hk1 _ _ hli hn3.1, hn3.2⟩
    · exact ⟨hk1 _ _ (hne' news' hmap q hq).2 (N' q (by simp [hq])).1, (N' q (by simp [hq])).2⟩
  | some v =>
    have hlt : i < vs.length := (List.getElem?_eq_some_iff.mp hv).1
    refine wpAny_pyNext_enum_item he' hit' hl' (x := v) (by simpa using hv) (Ne.symm hei) fun h₁ heo hit₁ ht₁ hz₁ hk₁ => ?_
    (try (show wpAny _ _ _ _ _ _; k_fold))
    refine wpAny_letOwnedTupleGo_enum heo fun h₂ he₂ hs₂ => ?_
    (try (show wpAny _ _ _ _ _ _; k_fold))
    replace hs₂ : Heap.SameBut e h₁ h₂ := hs₂
    have hTe : H.objs.size ≠ e := Nat.ne_of_gt (Heap.lt_size hn1.1)
    have ht₂ : h₂.IsTuple H.objs.size #[.int i tk, v] := ⟨_, (hs₂.2 _ hTe).trans ht₁, rfl, _, rfl⟩
    have hz₂ : h₂.objs.size = H.objs.size + 1 := hs₂.1.trans hz₁
    refine wpAny_assign_Tuple hh ht₂ rfl rfl fun h₃ hx₃ => ?_
    (try (show wpAny _ _ _ _ _ _; k_fold))
    replace hx₃ : Heap.ExtBut h₂.objs.size h₂ h₃ := hx₃
    have old₃ : ∀ b o, h₂.get? b = some o → h₃.get? b = some o := fun b o x => hx₃ b o (Nat.ne_of_lt (Heap.lt_size x)) x
    have up₃ : ∀ b o, b ≠ e → b ≠ it → H.get? b = some o → h₃.get? b = some o := fun b o h1 h2 x => old₃ b o (hs₂.extBut b o h1 (hk₁ b o h1 h2 x))
    have F₃ : Fr h₀ env.locals h₃ m' := ⟨F'.ns.at' fun o x => up₃ _ o (Ne.symm hn1.2.1) (Ne.symm hn2.2.1) x, fun b o x => up₃ b o (fun e2 => by rw [e2, hn1.2.2] at x; cases x) (fun e2 => by rw [e2, hn2.2.2] at x; cases x) (F'.keep b o x), F'.above⟩
    obtain ⟨oi₃, hoi₃, hii₃⟩ := (hit₁.extBut hs₂.extBut hei)
    have N₃ : News h₀ env.locals h₃ ([(e, _), (it, oi₃), (l, lstO vs nn)] ++ news') := fun q hq => by
      simp only [List.cons_append, List.nil_append, List.mem_cons] at hq
      rcases hq with rfl | rfl | rfl | hq
      · exact ⟨old₃ _ _ he₂, hn1.2⟩
      · exact ⟨old₃ _ _ hoi₃, hn2.2⟩
      · exact ⟨up₃ _ _ hle hli hn3.1, hn3.2⟩
      · exact ⟨up₃ _ _ (hne' news' hmap q hq).1 (hne' news' hmap q hq).2 (N' q (by simp [hq])).1, (N' q (by simp [hq])).2⟩
    show wpAny _ A (do holding [v] (assign (.Name xi pi) env (.int i tk)); do holding [] (assign (.Name xv pv) env v); pure ()) _ _ _
    refine wpAny_bind (wpAny_holding (wpAny_assign_Name (wpAny_storeName_local hxi F₃.ns (fun h₄ hn₄ hs₄ => ?_) hp)))
    replace hs₄ : Heap.SameBut env.locals h₃ h₄ := hs₄
    have F₄ := F₃.set hn₄ hs₄
    refine wpAny_bind (wpAny_holding (wpAny_assign_Name (wpAny_storeName_local hxv F₄.ns (fun h₅ hn₅ hs₅ => wpAny_pure ?_) hp)))
    replace hs₅ : Heap.SameBut env.locals h₄ h₅ := hs₅
    have F₅ := F₄.set hn₅ hs₅
    have N₅ := (N₃.set hs₄).set hs₅
    refine wpAny_passesOwn hE (wpAny_mono (step i v tk _ oi₃ m' news' h₅ _ g' hv hJ (hne' news' hmap) F₅ N₅) (fun f s₃ h₆ => ?_) fun _ _ x => x)
    obtain ⟨rfl, h₆, tk₆, g₆, m₂, news₂, rfl, hb₆, F₆, N₆, hmap₆, hJ₆⟩ := h₆
    refine ⟨vs.length + 1 - (i + 1), by omega, i + 1, h₆, tk₆, g₆, m₂, news₂, _, oi₃, v, rfl, hb.trans hb₆, ?_, ⟨oi₃, (N₆ (it, oi₃) (by simp)).1, hii₃⟩, F₆, N₆, hmap₆, hJ₆, hlt, rfl⟩
    have e1 : ((i + 1 : Nat) : Int) = (i : Int) + 1 := by push_cast; rfl
    rw [e1]
    exact (N₆ _ (.head _)).1
end
section
variable {prog : Program} {w : World} {A : Around} {E : Value → Shared → Prop} {s : Shared} {h₀ : Heap} {L : Addr} {m : Str → Option Value} {news : List (Addr × Obj)}
end
section
variable {w : World} {A : Around} {E : Value → Shared → Prop} {s : Shared} {env : Env} {h₀ : Heap} {m : Str → Option Value} {news : List (Addr × Obj)} {x : Str} {body : List Stmt} {Q : Flow → Shared → Prop}
theorem l_loop {l : Addr} {vs : List Value} {nn : Nat} (hh : A.handled = none) (F : Fr h₀ env.locals s.heap m) (N : News h₀ env.locals s.heap news) (hm : (l, lstO vs nn) ∈ news) (J : Nat → (Str → Option Value) → List (Addr × Obj) → Prop) (h0 : J 0 m news)
    (step : ∀ i v it m₁ news₁ h tk own, vs[i]? = some v → J i m₁ news₁ → (∀ p ∈ news₁, p.1 ∉ [it]) → (∀ p ∈ own, p.1 = it ∨ p.1 = l) →
      Fr h₀ env.locals h (fun y => if y = x then some v else m₁ y) → News h₀ env.locals h (own ++ news₁) →
      wpAny (model PR w) A (execs body env) (LoopStepV h₀ env.locals [it] own (J (i + 1)) { s with heap := h, toks := tk } (fun v s' => Q (.ret v) s') fun s' => Q .next s') E { s with heap := h, toks := tk })
    (done : ∀ h' tk m' news', Fr h₀ env.locals h' m' → News h₀ env.locals h' news' → J vs.length m' news' → Q .next { s with heap := h', toks := tk }) :
    wpAny (model PR w) A (pyIter (.ref l)) (fun it s₂ => MLoop PR w A h₀ env x body Q E it s₂) E s := by
  have hl : s.heap.IsList l vs.toArray := News.isList N hm
  have hne : l ≠ s.heap.objs.size := Nat.ne_of_lt (Heap.lt_size (N _ hm).1)
  refine wpAny_pyIter_list hl ?_
  refine loop_at (news := news) (m := m) (Walks.list hh s.heap.objs.size l hne vs.toArray) ?_ ?_ ?_ ⟨⟨_, Heap.get?_push_size _ rfl, rfl, rfl⟩, hl.push _⟩ (F.push _) (fun p hp => ⟨Heap.get?_push_of_some _ (N p hp).1, (N p hp).2⟩) J h0 ?_ ?_
  · intro hm'
    rcases List.mem_cons.mp hm' with e | hm'
    · exact absurd F.ns.lt (e ▸ Nat.lt_irrefl _)
    · exact (N _ hm).2.1 (List.mem_singleton.mp hm').symm
  · intro b hb
    rw [List.mem_singleton.mp hb]
    exact next_is_new F
  · intro p hp hI
    exact absurd (Heap.lt_size (N p hp).1) ((List.mem_singleton.mp hI) ▸ Nat.lt_irrefl _)
  · rintro i v m₁ news₁ h t own hi hv hJ hnw hown _ _ F₁ N₁
    (try ((with_reducible show wpAny _ _ _ _ _ _); k_fold))
    exact step i v _ m₁ news₁ h t own (by simpa using hv) hJ hnw (fun p hp => by have := hown p hp; simpa using this) F₁ N₁
  · intro h' tk m' news' F' N' hJ
    exact done h' tk m' news' F' N' (by simpa using hJ)
end
end Mine
end

section -- C10
open PySem PySem.W PyProof.Rows PyProof.V PySem.Spec
set_option maxRecDepth 100000
set_option maxHeartbeats 8000000
namespace Mine
theorem off_C10 : True := by
  w_top off
  trivial
noncomputable def sizeA (c : Int) : Int := 1 + c.fmod 7
noncomputable def sizeB (c : Int) : Int := 1 + (c.fdiv 7).fmod 7
noncomputable def kindF (c : Int) : Int := (c.fdiv 49).fmod 3
noncomputable abbrev lstO' (vs : List Value) : Obj := { cls := .type "list", data := .seq vs.toArray 0 }
noncomputable def RulerOut (k a b : Int) (_ : List (Addr × Obj)) (v : Value) (tl : List (Addr × Obj)) : Prop :=
  ∃ l ta tb tc td vs, v = .ref l ∧ tl = [(l, lstO vs 0)] ∧ ((k = 0 ∧ vs = [.int a ta, .int b tb]) ∨ (k = 1 ∧ vs = [.int a ta, .int b tb, .int 0 tc, .int 5 td]) ∨ (k = 2 ∧ vs = [.int a ta, .int b tb, .int 127 tc, .int 5 td]))
theorem kind_cases (c : Int) : kindF c = 0 ∨ kindF c = 1 ∨ kindF c = 2 := by
  unfold kindF
  rw [Int.fmod_eq_emod_of_nonneg _ (by decide)]
  have h1 := Int.emod_nonneg (c.fdiv 49) (show (3 : Int) ≠ 0 by decide)
  have h2 := Int.emod_lt_of_pos (c.fdiv 49) (show (0 : Int) < 3 by decide)
  omega
theorem ruler_con (w : World) (mean : ExcName → Option Value) (mg mb : Str → Option Value) (c : Int) (tc : Tok) :
    Con w mean mg mb 70 [.int c tc] 1 NoPre (RulerOut (kindF c) (sizeA c) (sizeB c)) := by
  unfold Con
  intro dp un gd cn cs a ccd cl outer A₀ base h₀ L m news s Q E B F X N T hk' hd hu hp hret
  refine wpAny_call ?_
  k_dflt cell_enter
  have hk := kind_cases c
  unfold kindF at hk
  rcases hk with hk | hk | hk
  · (try ((with_reducible show wpAny _ _ _ _ _ _); k_fold)); (try (with_reducible refine any_tk ?_; intro _)); (repeat' (first | (k_unfold; (try dsimp only)) | (k_end; wrow_close) | ((with_reducible show wpAny _ _ (execs (_ :: _) _) _ _ _); (with_reducible refine any_tk ?_); intro _) | ((with_reducible show wpAny _ _ (subscriptTail (PySem.Expr.Name _ _) (PySem.Expr.BinOp _ _ _ _) (Value.ref _) (Value.int _ _)) _ _ _); k_dflt (k_here; (with_reducible show wpAny _ _ (subscriptTail _ _ (Value.ref _) (Value.int (Int.fmod (Int.fdiv _ 49) 3) _)) _ _ _); k_dflt (refine' list_item ?N ?hm ?h0 ?h1 ?hx ?_; (case N => k_asm); (case hm => k_mem); (case hx => first | (rw [‹Int.fmod (Int.fdiv _ 49) 3 = 0›]; exact rfl) | (rw [‹Int.fmod (Int.fdiv _ 49) 3 = 1›]; exact rfl) | (rw [‹Int.fmod (Int.fdiv _ 49) 3 = 2›]; exact rfl)); (case h0 => omega); (case h1 => omega)))) | walk1 | (dsimp only; walk1) | (leave1; walk_say "STEP leave1"; try dsimp only) | fail "no step"))
    (rename News h₀ _ _ _ => N10)
    (rename (_ ∧ _ ∧ _ ∧ _ ∧ _ ∧ AllLt _ news) => hl)
    exact hret _ [_] _ _ (by assumption) (news_sub N10 fun p hp => by
        rcases List.mem_cons.mp hp with e | hp
        · rw [e]; exact .head _
        · exact .tail _ (.tail _ (.tail _ (.tail _ (.tail _ (.tail _ hp)))))) (fun q hq p hp => by rw [List.mem_singleton.mp hp]; exact allLt_mem hl.2.2.2.2.2 q hq) ⟨_, _, _, 0, 0, _, rfl, rfl, .inl ⟨hk, rfl⟩⟩
  · (try ((with_reducible show wpAny _ _ _ _ _ _); k_fold)); (try (with_reducible refine any_tk ?_; intro _)); (repeat' (first | (k_unfold; (try dsimp only)) | (k_end; wrow_close) | ((with_reducible show wpAny _ _ (execs (_ :: _) _) _ _ _); (with_reducible refine any_tk ?_); intro _) | ((with_reducible show wpAny _ _ (subscriptTail (PySem.Expr.Name _ _) (PySem.Expr.BinOp _ _ _ _) (Value.ref _) (Value.int _ _)) _ _ _); k_dflt (k_here; (with_reducible show wpAny _ _ (subscriptTail _ _ (Value.ref _) (Value.int (Int.fmod (Int.fdiv _ 49) 3) _)) _ _ _); k_dflt (refine' list_item ?N ?hm ?h0 ?h1 ?hx ?_; (case N => k_asm); (case hm => k_mem); (case hx => first | (rw [‹Int.fmod (Int.fdiv _ 49) 3 = 0›]; exact rfl) | (rw [‹Int.fmod (Int.fdiv _ 49) 3 = 1›]; exact rfl) | (rw [‹Int.fmod (Int.fdiv _ 49) 3 = 2›]; exact rfl)); (case h0 => omega); (case h1 => omega)))) | walk1 | (dsimp only; walk1) | (leave1; walk_say "STEP leave1"; try dsimp only) | fail "no step"))
    (rename News h₀ _ _ _ => N10)
    (rename (_ ∧ _ ∧ _ ∧ _ ∧ _ ∧ AllLt _ news) => hl)
    exact hret _ [_] _ _ (by assumption) (news_sub N10 fun p hp => by
        rcases List.mem_cons.mp hp with e | hp
        · rw [e]; exact .head _
        · exact .tail _ (.tail _ (.tail _ (.tail _ (.tail _ (.tail _ hp)))))) (fun q hq p hp => by rw [List.mem_singleton.mp hp]; exact allLt_mem hl.2.2.2.2.2 q hq) ⟨_, _, _, _, _, _, rfl, rfl, .inr (.inl ⟨hk, rfl⟩)⟩
  · (try ((with_reducible show wpAny _ _ _ _ _ _); k_fold)); (try (with_reducible refine any_tk ?_; intro _)); (repeat' (first | (k_unfold; (try dsimp only)) | (k_end; wrow_close) | ((with_reducible show wpAny _ _ (execs (_ :: _) _) _ _ _); (with_reducible refine any_tk ?_); intro _) | ((with_reducible show wpAny _ _ (subscriptTail (PySem.Expr.Name _ _) (PySem.Expr.BinOp _ _ _ _) (Value.ref _) (Value.int _ _)) _ _ _); k_dflt (k_here; (with_reducible show wpAny _ _ (subscriptTail _ _ (Value.ref _) (Value.int (Int.fmod (Int.fdiv _ 49) 3) _)) _ _ _); k_dflt (refine' list_item ?N ?hm ?h0 ?h1 ?hx ?_; (case N => k_asm); (case hm => k_mem); (case hx => first | (rw [‹Int.fmod (Int.fdiv _ 49) 3 = 0›]; exact rfl) | (rw [‹Int.fmod (Int.fdiv _ 49) 3 = 1›]; exact rfl) | (rw [‹Int.fmod (Int.fdiv _ 49) 3 = 2›]; exact rfl)); (case h0 => omega); (case h1 => omega)))) | walk1 | (dsimp only; walk1) | (leave1; walk_say "STEP leave1"; try dsimp only) | fail "no step"))
    (rename News h₀ _ _ _ => N10)
    (rename (_ ∧ _ ∧ _ ∧ _ ∧ _ ∧ AllLt _ news) => hl)
    exact hret _ [_] _ _ (by assumption) (news_sub N10 fun p hp => by
        rcases List.mem_cons.mp hp with e | hp
        · rw [e]; exact .head _
        · exact .tail _ (.tail _ (.tail _ (.tail _ (.tail _ (.tail _ hp)))))) (fun q hq p hp => by rw [List.mem_singleton.mp hp]; exact allLt_mem hl.2.2.2.2.2 q hq) ⟨_, _, _, _, _, _, rfl, rfl, .inr (.inr ⟨hk, rfl⟩)⟩
end Mine
end

section -- P3
open PySem PySem.W PyProof.Rows PyProof.V PySem.Spec
set_option maxRecDepth 100000
namespace Mine
@[irreducible] noncomputable def walkT (its : List Int) (i : Nat) : Int := (its.take i).foldl (fun a b => a + b) 0
theorem walkT_zero (its : List Int) : walkT its 0 = 0 := by unfold walkT; rfl
theorem walkT_succ {its : List Int} {i : Nat} {y : Int} (h : its[i]? = some y) : walkT its (i + 1) = walkT its i + y := by unfold walkT; exact foldl_at (fun (a b : Int) => a + b) 0 its h
theorem walkT_b {its : List Int} (h : ∀ y ∈ its, 1 ≤ y ∧ y ≤ 7) : ∀ i, i ≤ its.length → 0 ≤ walkT its i ∧ walkT its i ≤ 7 * (i : Int)
  | 0, _ => by rw [walkT_zero]; omega
  | i + 1, hi => by
    have ih := walkT_b h i (by omega)
    have hy := List.getElem?_eq_getElem (l := its) (i := i) (by omega)
    have := h _ (List.mem_of_getElem? hy)
    rw [walkT_succ hy]
    push_cast
    omega
noncomputable def cntF (c : Int) : Nat := (2 + (c.fdiv 147).fmod 4).toNat
noncomputable def itemsF (c : Int) : List Int := if kindF c = 1 then [sizeA c, sizeB c, sizeB c, sizeB c, sizeB c] else [sizeA c, sizeB c]
theorem fmod_b {n : Int} (hn : 0 < n) (x : Int) : 0 ≤ x.fmod n ∧ x.fmod n < n := by
  rw [Int.fmod_eq_emod_of_nonneg _ (Int.le_of_lt hn)]
  exact ⟨Int.emod_nonneg _ (by omega), Int.emod_lt_of_pos _ hn⟩
theorem fmod_lt_len {n : Int} {x : Int} {vs : List Value} (hn : 0 < n) (e : vs.length = n.toNat) : x.fmod n < vs.length := by
  have := fmod_b hn x
  omega
theorem size_b (c : Int) : (1 ≤ sizeA c ∧ sizeA c ≤ 7) ∧ (1 ≤ sizeB c ∧ sizeB c ≤ 7) := by
  unfold sizeA sizeB
  have h1 := fmod_b (n := 7) (by decide) c
  have h2 := fmod_b (n := 7) (by decide) (c.fdiv 7)
  omega
theorem items_b (c : Int) : ∀ y ∈ itemsF c, 1 ≤ y ∧ y ≤ 7 := by
  intro y hy
  have := size_b c
  unfold itemsF at hy
  split at hy <;> simp at hy <;> omega
theorem items_len (c : Int) : 0 < (itemsF c).length ∧ (itemsF c).length ≤ 5 := by unfold itemsF; split <;> simp
theorem cnt_b (c : Int) : 2 ≤ cntF c ∧ cntF c ≤ 5 := by
  unfold cntF
  have := fmod_b (n := 4) (by decide) (c.fdiv 147)
  omega
theorem cnt_iff {c : Int} {i : Nat} : i + 1 = cntF c ↔ (i : Int) + 1 = 2 + (c.fdiv 147).fmod 4 := by
  unfold cntF
  have := fmod_b (n := 4) (by decide) (c.fdiv 147)
  omega
/-- the paints after i sizes -/
noncomputable def walkP0 (n p : Int) (its P : List Int) : Nat → List Int
  | 0 => P
  | i + 1 => (walkP0 n p its P i).set ((walkT its (i + 1)).fmod n).toNat p
@[irreducible] noncomputable def walkP (n p : Int) (its P : List Int) (i : Nat) : List Int := walkP0 n p its P i
theorem walkP_zero (n p : Int) (its P : List Int) : walkP n p its P 0 = P := by unfold walkP; rfl
theorem walkP_suc (n p : Int) (its P : List Int) (i : Nat) : walkP n p its P (i + 1) = (walkP n p its P i).set ((walkT its (i + 1)).fmod n).toNat p := by unfold walkP; rfl
theorem walkP_succ {n p : Int} {its P : List Int} {i : Nat} {y : Int} (h : its[i]? = some y) : walkP n p its P (i + 1) = (walkP n p its P i).set ((walkT its i + y).fmod n).toNat p := by rw [walkP_suc, walkT_succ h]
theorem walkP_len (n p : Int) (its P : List Int) : ∀ i, (walkP n p its P i).length = P.length
  | 0 => by rw [walkP_zero]
  | i + 1 => by rw [walkP_suc, List.length_set, walkP_len]
/-- the paints after the first i of the two cells -/
noncomputable def outP0 (n : Int) (cs P : List Int) : Nat → List Int
  | 0 => P
  | i + 1 => walkP n i (itemsF (cs.getD i 0)) (outP0 n cs P i) (min (cntF (cs.getD i 0)) (itemsF (cs.getD i 0)).length)
@[irreducible] noncomputable def outP (n : Int) (cs P : List Int) (i : Nat) : List Int := outP0 n cs P i
theorem outP_zero (n : Int) (cs P : List Int) : outP n cs P 0 = P := by unfold outP; rfl
theorem outP_suc (n : Int) (cs P : List Int) (i : Nat) : outP n cs P (i + 1) = walkP n i (itemsF (cs.getD i 0)) (outP n cs P i) (min (cntF (cs.getD i 0)) (itemsF (cs.getD i 0)).length) := by unfold outP; rfl
theorem outP_succ {n : Int} {cs P : List Int} {i : Nat} {c : Int} (h : cs[i]? = some c) : outP n cs P (i + 1) = walkP n i (itemsF c) (outP n cs P i) (min (cntF c) (itemsF c).length) := by
  have : cs.getD i 0 = c := by rw [List.getD_eq_getElem?_getD, h]; rfl
  rw [outP_suc, this]
theorem outP_len (n : Int) (cs P : List Int) : ∀ i, (outP n cs P i).length = P.length
  | 0 => by rw [outP_zero]
  | i + 1 => by rw [outP_suc, walkP_len, outP_len]
/-- the paints after i of the last cells -/
noncomputable def lastP0 (n : Int) (cs P : List Int) : Nat → List Int
  | 0 => P
  | i + 1 => (lastP0 n cs P i).set (((cs.getD i 0).fmod (3 * n)).fmod n).toNat (((cs.getD i 0).fmod (3 * n)).fdiv n)
@[irreducible] noncomputable def lastP (n : Int) (cs P : List Int) (i : Nat) : List Int := lastP0 n cs P i
theorem lastP_zero (n : Int) (cs P : List Int) : lastP n cs P 0 = P := by unfold lastP; rfl
theorem lastP_suc (n : Int) (cs P : List Int) (i : Nat) : lastP n cs P (i + 1) = (lastP n cs P i).set (((cs.getD i 0).fmod (3 * n)).fmod n).toNat (((cs.getD i 0).fmod (3 * n)).fdiv n) := by unfold lastP; rfl
theorem lastP_succ {n : Int} {cs P : List Int} {i : Nat} {c : Int} (h : cs[i]? = some c) : lastP n cs P (i + 1) = (lastP n cs P i).set ((c.fmod (3 * n)).fmod n).toNat ((c.fmod (3 * n)).fdiv n) := by
  have : cs.getD i 0 = c := by rw [List.getD_eq_getElem?_getD, h]; rfl
  rw [lastP_suc, this]
theorem lastP_len (n : Int) (cs P : List Int) : ∀ i, (lastP n cs P i).length = P.length
  | 0 => by rw [lastP_zero]
  | i + 1 => by rw [lastP_suc, List.length_set, lastP_len]
theorem ints_set {vs : List Value} {ns : List Int} (h : IntsAre vs ns) (k : Nat) (p : Int) (t : Tok) : IntsAre (vs.set k (.int p t)) (ns.set k p) := by
  induction h generalizing k with
  | nil => exact .nil
  | cons n u h ih =>
    cases k with
    | zero => exact .cons p t h
    | succ k => exact .cons n u (ih k)
theorem gen_any (w : World) (mean : ExcName → Option Value) (mg mb : Str → Option Value) {A : Around} {E : Value → Shared → Prop} {s : Shared} {L l : Addr} {h₀ : Heap} {m : Str → Option Value} {news : List (Addr × Obj)} {vs : List Value} {Q : Value → Shared → Prop}
    {c : Int} {ta tb tc td : Tok} (hr : (kindF c = 0 ∧ vs = [.int (sizeA c) ta, .int (sizeB c) tb]) ∨ (kindF c = 1 ∧ vs = [.int (sizeA c) ta, .int (sizeB c) tb, .int 0 tc, .int 5 td]) ∨ (kindF c = 2 ∧ vs = [.int (sizeA c) ta, .int (sizeB c) tb, .int 127 tc, .int 5 td]))
    (F : Fr h₀ L s.heap m) (X : (hd.heap_39 w.params).In h₀) (N : News h₀ L s.heap news) (T : Top PV [] mean mg mb h₀) (hroom : A.depth < recursionLimit)
    (h : ∀ C G oC oG h' tk gs, Fr h₀ L h' m → News h₀ L h' ((G, oG) :: (C, oC) :: news) → (∀ q ∈ news, q.1 < C) → C < G → h'.Ns C (fun y => [(Str.ofString "grouping", Value.ref l)].reverse.lookup y) → h'.IsGen G s.gens.size → h₀.objs.size ≤ C → gs.bare = true →
      GFresh w h₀ C l (lstO vs 0) (itemsF c) (decide (kindF c ≠ 1)) gs → Q (.ref G) { s with heap := h', gens := s.gens.push gs, toks := tk }) :
    wpAny (model PR w) A (call (.ref 35) [.ref l]) Q E s := by
  have hs := size_b c
  have ha : sizeA c ≠ 0 ∧ sizeA c ≠ 127 := by omega
  have hb : sizeB c ≠ 0 ∧ sizeB c ≠ 127 := by omega
  rcases hr with ⟨hk, hv⟩ | ⟨hk, hv⟩ | ⟨hk, hv⟩
  · have e1 : itemsF c = [sizeA c, sizeB c] := by unfold itemsF; rw [if_neg (by omega)]
    have e2 : decide (kindF c ≠ 1) = true := by simp [hk]
    rw [e1, e2] at h
    exact gen_two w mean mg mb (tc := 0) (td := 0) ha hb hv F X N T hroom h
  · have e1 : itemsF c = [sizeA c, sizeB c, sizeB c, sizeB c, sizeB c] := by unfold itemsF; rw [if_pos hk]
    have e2 : decide (kindF c ≠ 1) = false := by simp [hk]
    rw [e1, e2] at h
    exact gen_nought w mean mg mb ha hb hv F X N T hroom h
  · have e1 : itemsF c = [sizeA c, sizeB c] := by unfold itemsF; rw [if_neg (by omega)]
    have e2 : decide (kindF c ≠ 1) = true := by simp [hk]
    rw [e1, e2] at h
    exact gen_stop w mean mg mb ha hb hv F X N T hroom h
structure OffPre (P : Addr) (l : List (Addr × Obj)) : Prop where
  h : ∀ q ∈ l, q.1 ≠ P
structure OffPost (P : Addr) (l : List (Addr × Obj)) : Prop where
  h : ∀ q ∈ l, q.1 ≠ P
theorem list_storeP {prog : Program} {w : World} {A : Around} {E : Value → Shared → Prop} {s : Shared} {h₀ : Heap} {L : Addr} {m : Str → Option Value} {pre post : List (Addr × Obj)} {P : Addr} {vs : List Value} {nn : Nat} {k : Int} {t : Tok} {v : Value} {Q : Unit → Shared → Prop} (F : Fr h₀ L s.heap m)
    (ha : OffPre P pre) (hb : OffPost P post) (N : News h₀ L s.heap (pre ++ (P, lstO vs nn) :: post))
    (h0 : 0 ≤ k) (hn : k < vs.length) (hfit : vs.length ≤ 1000) (h : ∀ h', Fr h₀ L h' m → News h₀ L h' (pre ++ (P, lstO (vs.set k.toNat v) nn) :: post) → Q () { s with heap := h' }) : wpAny (model prog w) A (setItem (.ref P) (.int k t) v) Q E s := by
  have z := N (P, lstO vs nn) (List.mem_append.mpr (.inr (.head _)))
  refine ki_setAt (items := vs.toArray) (n := nn) z.1 h0 (by omega) (by simpa using hn) (h _ (F.change (Heap.SameBut.update ..) z.2.1 z.2.2) (ki_turn (its := vs.toArray) (n := nn) _ N ha.h hb.h ?_ ?_))
  · apply Array.toList_inj.mp; simp
  · simp
theorem news_pull {h₀ h : Heap} {L : Addr} {a b c d e f k g : Addr × Obj} {rest : List (Addr × Obj)} (N : News h₀ L h (a :: b :: c :: d :: e :: f :: k :: g :: rest)) : News h₀ L h (a :: b :: c :: g :: d :: e :: f :: k :: rest) := news_sub N fun p hp => by
  simp only [List.mem_cons] at hp ⊢
  rcases hp with h | h | h | h | h | h | h | h | h <;> simp [h]
theorem mem_pull {c d e f k g q : Addr × Obj} {rest : List (Addr × Obj)} (hq : q ∈ g :: d :: e :: f :: k :: rest) : q ∈ c :: d :: e :: f :: k :: g :: rest := by
  simp only [List.mem_cons] at hq ⊢
  rcases hq with h | h | h | h | h | h <;> simp [h]
theorem ints_back : ∀ {vs : List Value} {ns : List Int}, IntsAre vs ns → ∀ {i : Nat} {v : Value}, vs[i]? = some v → ∃ c t, v = .int c t ∧ ns[i]? = some c
  | _, _, .nil, i, v, e => by simp at e
  | _, _, .cons n t h, 0, v, e => ⟨n, t, by simpa using e.symm, rfl⟩
  | _, _, .cons n t h, i + 1, v, e => by
    have := ints_back h (i := i) (v := v) (by simpa using e)
    simpa using this
noncomputable def JE (m0 : Str → Option Value) (P : Addr) (n : Int) (rest : List (Addr × Obj)) (f : Nat → List Int) (i : Nat) (m' : Str → Option Value) (n' : List (Addr × Obj)) : Prop :=
  ∃ (u : Str → Option Value) (vals : List Value), m' = (fun y => if [Str.ofString "paint", Str.ofString "cell", Str.ofString "turns", Str.ofString "told", Str.ofString "size"].contains y then u y else m0 y) ∧ n' = (P, lstO vals 0) :: rest ∧ IntsAre vals (f i) ∧ vals.length = n.toNat
noncomputable def JG (m0 : Str → Option Value) (P : Addr) (n : Int) (rest : List (Addr × Obj)) (g : Nat → Int) (f : Nat → List Int) (i : Nat) (m' : Str → Option Value) (n' : List (Addr × Obj)) : Prop :=
  ∃ (u : Option Value) (t1 t2 : Tok) (vals : List Value), m' = (fun y => if y = Str.ofString "told" then some (.int i t2) else if y = Str.ofString "turns" then some (.int (g i) t1) else if y = Str.ofString "size" then u else m0 y) ∧ n' = (P, lstO vals 0) :: rest ∧ IntsAre vals (f i) ∧ vals.length = n.toNat
theorem JG.start {m1 : Str → Option Value} {P : Addr} {n : Int} {rest : List (Addr × Obj)} {g : Nat → Int} {f : Nat → List Int} {t1 t2 : Tok} {vals : List Value} (hg : g 0 = 0) (hI : IntsAre vals (f 0)) (hl : vals.length = n.toNat) :
    JG m1 P n rest g f 0 (fun y => if y = Str.ofString "told" then some (.int 0 t2) else if y = Str.ofString "turns" then some (.int 0 t1) else m1 y) ((P, lstO vals 0) :: rest) := by
  refine ⟨m1 (Str.ofString "size"), t1, t2, vals, ?_, rfl, hI, hl⟩
  rw [hg]
  funext y
  by_cases h1 : y = Str.ofString "told"
  · simp [h1]
  · by_cases h2 : y = Str.ofString "turns"
    · simp [h2]
    · by_cases h3 : y = Str.ofString "size"
      · simp [h3]
      · simp [h1, h2, h3]
theorem ends_or (c : Int) : decide (kindF c ≠ 1) = true ∨ cntF c ≤ (itemsF c).length := by
  by_cases h : kindF c = 1
  · right
    have := cnt_b c
    have : (itemsF c).length = 5 := by unfold itemsF; rw [if_pos h]; rfl
    omega
  · left; simpa using h
theorem pre_off {It C l G P : Addr} {oI oC lst oG : Obj} (h1 : P ≠ It) (h2 : P < C) (h3 : P < l) (h4 : C < G) : ∀ q ∈ [(It, oI), (C, oC), (l, lst), (G, oG)], q.1 ≠ P := by
  intro q hq
  simp only [List.mem_cons, List.not_mem_nil, or_false] at hq
  rcases hq with rfl | rfl | rfl | rfl
  · exact Ne.symm h1
  · exact Nat.ne_of_gt h2
  · exact Nat.ne_of_gt h3
  · exact Nat.ne_of_gt (Nat.lt_trans h2 h4)
theorem post_off {P : Addr} {d e f k g : Addr × Obj} {rest : List (Addr × Obj)} (h1 : d.1 ≠ P) (h2 : e.1 ≠ P) (h3 : f.1 ≠ P) (h4 : k.1 ≠ P) (h5 : g.1 ≠ P) (h6 : ∀ q ∈ rest, q.1 ≠ P) : ∀ q ∈ d :: e :: f :: k :: g :: rest, q.1 ≠ P := by
  intro q hq
  simp only [List.mem_cons] at hq
  rcases hq with rfl | rfl | rfl | rfl | rfl | hq
  · exact h1
  · exact h2
  · exact h3
  · exact h4
  · exact h5
  · exact h6 q hq
theorem JG.step {m1 : Str → Option Value} {P : Addr} {n : Int} {rest : List (Addr × Obj)} {g : Nat → Int} {f : Nat → List Int} {t1 t2 : Tok} {vals : List Value} {i : Nat} {a b : Int} {v x1 x2 x3 : Option Value} (ha : a = ((i + 1 : Nat) : Int)) (hg : g (i + 1) = b) (hI : IntsAre vals (f (i + 1))) (hl : vals.length = n.toNat) :
    JG m1 P n rest g f (i + 1) (fun y => if y = Str.ofString "told" then some (.int a t2) else if y = Str.ofString "turns" then some (.int b t1) else if y = Str.ofString "size" then v else if y = Str.ofString "told" then x1 else if y = Str.ofString "turns" then x2 else if y = Str.ofString "size" then x3 else m1 y) ((P, lstO vals 0) :: rest) := by
  refine ⟨v, t1, t2, vals, ?_, rfl, hI, hl⟩
  rw [hg, ← ha]
  funext y
  by_cases h1 : y = Str.ofString "told"
  · simp [h1]
  · by_cases h2 : y = Str.ofString "turns"
    · simp [h2]
    · by_cases h3 : y = Str.ofString "size"
      · simp [h3]
      · simp [h1, h2, h3]
theorem pre_of {h₀ h : Heap} {L It C l G P : Addr} {oI oC lst oG oP : Obj} {rest : List (Addr × Obj)} (_ : News h₀ L h ([(It, oI), (C, oC), (l, lst), (G, oG)] ++ (P, oP) :: rest)) (h1 : P ≠ It) (h2 : P < C) (h3 : P < l) (h4 : C < G) : OffPre P [(It, oI), (C, oC), (l, lst), (G, oG)] := ⟨pre_off h1 h2 h3 h4⟩
theorem post_of {h₀ h : Heap} {L P : Addr} {a1 a2 a3 a4 d e f k g : Addr × Obj} {oP : Obj} {rest : List (Addr × Obj)} (_ : News h₀ L h ([a1, a2, a3, a4] ++ (P, oP) :: d :: e :: f :: k :: g :: rest)) (h1 : d.1 ≠ P) (h2 : e.1 ≠ P) (h3 : f.1 ≠ P) (h4 : k.1 ≠ P) (h5 : g.1 ≠ P) (h6 : ∀ q ∈ rest, q.1 ≠ P) : OffPost P (d :: e :: f :: k :: g :: rest) := ⟨post_off h1 h2 h3 h4 h5 h6⟩
theorem news_back {h₀ h : Heap} {L : Addr} {a b d e f k g : Addr × Obj} {rest : List (Addr × Obj)} (N : News h₀ L h ([a, b] ++ g :: d :: e :: f :: k :: rest)) : News h₀ L h ([e, f, k] ++ g :: rest) := news_sub N fun p hp => by
  simp only [List.cons_append, List.nil_append, List.mem_cons] at hp ⊢
  rcases hp with h | h | h | h | h <;> simp [h]
theorem JE.mk {m0 m' : Str → Option Value} {P : Addr} {n : Int} {rest : List (Addr × Obj)} {f : Nat → List Int} {i : Nat} {vals : List Value} (hr : ∀ y, [Str.ofString "paint", Str.ofString "cell", Str.ofString "turns", Str.ofString "told", Str.ofString "size"].contains y = false → m' y = m0 y) (hI : IntsAre vals (f i)) (hl : vals.length = n.toNat) :
    JE m0 P n rest f i m' ((P, lstO vals 0) :: rest) := by
  refine ⟨m', vals, ?_, rfl, hI, hl⟩
  funext y
  by_cases h : [Str.ofString "paint", Str.ofString "cell", Str.ofString "turns", Str.ofString "told", Str.ofString "size"].contains y = true
  · rw [if_pos h]
  · rw [if_neg h]; exact hr y (by simpa using h)
theorem JE.step {m0 : Str → Option Value} {P : Addr} {n : Int} {rest : List (Addr × Obj)} {f : Nat → List Int} {i : Nat} {u : Str → Option Value} {vals : List Value} {x1 x2 x3 x4 x5 : Option Value} (hI : IntsAre vals (f i)) (hl : vals.length = n.toNat) :
    JE m0 P n rest f i (fun y => if y = Str.ofString "told" then x1 else if y = Str.ofString "turns" then x2 else if y = Str.ofString "size" then x3 else if y = Str.ofString "cell" then x4 else if y = Str.ofString "paint" then x5 else if [Str.ofString "paint", Str.ofString "cell", Str.ofString "turns", Str.ofString "told", Str.ofString "size"].contains y then u y else m0 y) ((P, lstO vals 0) :: rest) := by
  refine JE.mk (fun y h' => ?_) hI hl
  have h0 := h'
  obtain ⟨h1, h'⟩ := cont_cons h'
  obtain ⟨h2, h'⟩ := cont_cons h'
  obtain ⟨h3, h'⟩ := cont_cons h'
  obtain ⟨h4, h'⟩ := cont_cons h'
  obtain ⟨h5, h'⟩ := cont_cons h'
  rw [if_neg h4, if_neg h3, if_neg h5, if_neg h2, if_neg h1, h0]
  rfl
noncomputable def JL (m0 : Str → Option Value) (P : Addr) (n : Int) (rest : List (Addr × Obj)) (f : Nat → List Int) (i : Nat) (m' : Str → Option Value) (n' : List (Addr × Obj)) : Prop :=
  ∃ (u1 u2 : Option Value) (vals : List Value), m' = (fun y => if y = Str.ofString "turns" then u1 else if y = Str.ofString "cell" then u2 else m0 y) ∧ n' = (P, lstO vals 0) :: rest ∧ IntsAre vals (f i) ∧ vals.length = n.toNat
theorem JL.start {m0 : Str → Option Value} {P : Addr} {n : Int} {rest : List (Addr × Obj)} {f : Nat → List Int} {vals : List Value} (hI : IntsAre vals (f 0)) (hl : vals.length = n.toNat) : JL m0 P n rest f 0 m0 ((P, lstO vals 0) :: rest) := by
  refine ⟨m0 (Str.ofString "turns"), m0 (Str.ofString "cell"), vals, ?_, rfl, hI, hl⟩
  funext y
  by_cases h1 : y = Str.ofString "turns"
  · rw [if_pos h1, h1]
  · by_cases h2 : y = Str.ofString "cell"
    · rw [if_neg h1, if_pos h2, h2]
    · rw [if_neg h1, if_neg h2]
theorem jl_end {g h2 : Heap} {L it P : Addr} {m0 : Str → Option Value} {n : Int} {rest own : List (Addr × Obj)} {f : Nat → List Int} {i : Nat} {vals vals' : List Value} {x1 x2 x3 x4 : Option Value} {s₁ : Shared} {tk : Nat}
    (F : Fr g L h2 (fun y => if y = Str.ofString "turns" then x1 else if y = Str.ofString "cell" then x2 else if y = Str.ofString "turns" then x3 else if y = Str.ofString "cell" then x4 else m0 y)) (N : News g L h2 (own ++ (P, lstO vals' 0) :: rest)) (hnw : ∀ p ∈ (P, lstO vals 0) :: rest, p.1 ∉ [it])
    (hI : IntsAre vals' (f (i + 1))) (hl : vals'.length = n.toNat) : LoopStepU g L [it] own (JL m0 P n rest f (i + 1)) s₁ .next { s₁ with heap := h2, toks := tk } :=
  LoopStepU.intro F N (fun p hp => by
    rcases List.mem_cons.mp hp with e | hp
    · rw [e]; exact hnw (P, lstO vals 0) (.head _)
    · exact hnw p (.tail _ hp)) ⟨x1, x2, vals', by
      funext y
      by_cases h1 : y = Str.ofString "turns"
      · simp [h1]
      · by_cases h2 : y = Str.ofString "cell"
        · simp [h2]
        · simp [h1, h2], rfl, hI, hl⟩
theorem off_own {own : List (Addr × Obj)} {it l P : Addr} (hown : ∀ p ∈ own, p.1 = it ∨ p.1 = l) (h1 : P ∉ [it]) (h2 : P < l) : OffPre P own := ⟨fun q hq e => by
  rcases hown q hq with h | h
  · exact h1 (by rw [← e, h]; exact .head _)
  · exact Nat.ne_of_gt h2 (h.symm.trans e)⟩
theorem off_post3 {a b c : Addr × Obj} {P : Addr} {rest : List (Addr × Obj)} (h1 : P < a.1) (h2 : P < b.1) (h3 : c.1 < P) (h4 : AllLt P rest) : OffPost P (a :: b :: c :: rest) := ⟨fun q hq => by
  simp only [List.mem_cons] at hq
  rcases hq with rfl | rfl | rfl | hq
  · exact Nat.ne_of_gt h1
  · exact Nat.ne_of_gt h2
  · exact Nat.ne_of_lt h3
  · exact Nat.ne_of_lt (allLt_mem h4 q hq)⟩
theorem off_post3N {h₀ h : Heap} {L P : Addr} {own : List (Addr × Obj)} {oP : Obj} {a b c : Addr × Obj} {rest : List (Addr × Obj)} (_ : News h₀ L h (own ++ (P, oP) :: a :: b :: c :: rest)) (h1 : P < a.1) (h2 : P < b.1) (h3 : c.1 < P) (h4 : AllLt P rest) : OffPost P (a :: b :: c :: rest) := off_post3 h1 h2 h3 h4
theorem news_front {h₀ h : Heap} {L : Addr} {a b g : Addr × Obj} {rest : List (Addr × Obj)} (N : News h₀ L h (a :: b :: g :: rest)) : News h₀ L h (g :: a :: b :: rest) := news_sub N fun p hp => by
  simp only [List.mem_cons] at hp ⊢
  rcases hp with h | h | h | h <;> simp [h]
noncomputable def cutF (cs : List Int) : List Int := List.take (min 3 cs.length - 1) (List.drop 1 cs)
/-- the paints that _law_painted gives back -/
noncomputable def paintF (n : Int) (cs : List Int) : List Int := lastP n (List.drop 3 cs) (outP n (List.take (min 3 cs.length - 1) (List.drop 1 cs)) (List.replicate n.toNat [2]).flatten (List.take (min 3 cs.length - 1) (List.drop 1 cs)).length) (List.drop 3 cs).length
noncomputable def PaintOut (ns : List Int) (_ : List (Addr × Obj)) (v : Value) (tl : List (Addr × Obj)) : Prop := ∃ P vals, v = .ref P ∧ tl = [(P, lstO vals 0)] ∧ IntsAre vals ns
/-- Con, for a def that makes and wakes generators -/
noncomputable def ConG (w : World) (mean : ExcName → Option Value) (mg mb : Str → Option Value) (f : Addr) (vs : List Value) (dn : Nat) (Pre : List (Addr × Obj) → Prop) (Out : List (Addr × Obj) → Value → List (Addr × Obj) → Prop) : Prop :=
  ∀ (dp un : Nat) (gd : Option (List Code)) (cn : Str) (cs : Scope) (a : Addr) (ccd : Value) (cl : List (Str × Addr)) (outer : List Env) (A₀ : Around) (base h₀ : Heap) (L : Addr) (m : Str → Option Value) (news : List (Addr × Obj)) (s : Shared) (Q E : Value → Shared → Prop),
    Below A₀ base outer h₀ → Fr h₀ L s.heap m → (hd.heap_39 w.params).In h₀ → News h₀ L s.heap news → Top PV [] mean mg mb h₀ → cs.kind = .function → dp + dn < recursionLimit → un + 8 * dn < cLine → Pre news →
    (∀ v tl h' tk' g', BareTo s.gens g' → Fr h₀ L h' m → News h₀ L h' (tl ++ news) → (∀ q ∈ news, ∀ p ∈ tl, q.1 < p.1) → Out news v tl → Q v { s with heap := h', gens := g', toks := tk' }) →
    wpAny (model PR w) (ktrTop dp un gd cn cs L a ccd cl outer) (call (.ref f) vs) Q E s
end Mine
end

section -- C11
open PySem PySem.W PyProof.Rows PyProof.V PySem.Spec
set_option maxRecDepth 100000
set_option maxHeartbeats 8000000
namespace Mine
theorem off_C11 : True := by
  w_top off
  trivial
theorem painted_con (w : World) (mean : ExcName → Option Value) (mg mb : Str → Option Value) (n : Int) (tn : Tok) (lc : Addr) (cvs : List Value) (cs : List Int) (hn : n = 5 ∨ n = 6 ∨ n = 7) (hcs : IntsAre cvs cs) (hlen : 3 ≤ cs.length) (hlen' : cs.length ≤ 100) :
    ConG w mean mg mb 77 [.int n tn, .ref lc] 3 (fun news => (lc, lstO cvs 0) ∈ news) (PaintOut (paintF n cs)) := by
  unfold ConG
  intro dp un gd cn ccs a ccd cl outer A₀ base h₀ L m news s Q E B F X N T hk' hd hu hp hret
  refine wpAny_call ?_
  k_dflt cell_enter
  have hn0 : 0 < n := by omega
  (try ((with_reducible show wpAny _ _ _ _ _ _); k_fold)); (try (with_reducible refine any_tk ?_; intro _)); (repeat' (first | (k_unfold; (try dsimp only)) | (k_end; wrow_close) | ((with_reducible show wpAny _ _ (execs (_ :: _) _) _ _ _); (with_reducible refine any_tk ?_); intro _) | ((with_reducible show wpAny _ _ (exec _ _) _ _ _); (first | ((with_reducible show wpAny _ _ (exec (PySem.Stmt.For (PySem.Expr.Name _ _) (PySem.Expr.Call _ _ _ _) _ _ _) _) _ _ _); k_dflt (k_here; (with_reducible show wpAny _ _ (exec (Stmt.For (Expr.Name _ _) (Expr.Call _ _ _ _) _ _ _) _) _ _ _); k_dflt (refine for_g ?_))) | ((with_reducible show wpAny _ _ (exec (PySem.Stmt.For (PySem.Expr.Tuple _ _ _) (PySem.Expr.Call _ _ _ _) _ _ _) _) _ _ _); k_dflt (k_here; (with_reducible show wpAny _ _ (exec (Stmt.For (Expr.Tuple _ _ _) (Expr.Call _ _ _ _) _ _ _) _) _ _ _); k_dflt (refine for_g ?_))) | ((with_reducible show wpAny _ _ (exec (PySem.Stmt.For (PySem.Expr.Name _ _) (PySem.Expr.Subscript _ _ _) _ _ _) _) _ _ _); k_dflt (k_here; (with_reducible show wpAny _ _ (exec (Stmt.For (Expr.Name _ _) (Expr.Subscript _ _ _) _ _ _) _) _ _ _); (rename Fr _ _ _ _ => F9); k_dflt (refine for_m F9 (by rfl) (by rfl) ?_))))) | ((with_reducible show wpAny _ _ (setItem (Value.ref _) (Value.int _ _) _) _ _ _); k_dflt (k_here; k_dflt (refine' list_storeP ?F ?ha ?hb ?N ?h0 ?hn ?hf ?_; (case F => k_asm); (case ha => assumption); (case hb => assumption); (case N => assumption); (case h0 => exact (fmod_b (by assumption) _).1); (case hn => exact fmod_lt_len (by assumption) (by assumption)); (case hf => assumption)); intro _ _ _)) | ((with_reducible show wpAny _ _ (pyIter (Value.ref _)) _ _ _); k_dflt (k_here; first | (refine' wpAny_pyIter_gen ?hg ?_; (case hg => assumption)) | (refine' e_iter ?he ?_; (case he => assumption)))) | ((with_reducible show wpAny _ _ (call _ _) _ _ _); (first | ((with_reducible show wpAny _ _ (call (Value.type "enumerate") [Value.ref _]) _ _ _); k_dflt (k_here; k_dflt (refine' e_make ?F ?N ?hm ?_; (case F => k_asm); (case N => k_asm); (case hm => k_mem)); intro _ _ _ _ _ _ _ _ _ _ _)) | ((with_reducible show wpAny _ _ (call (Value.ref _) _) _ _ _); k_dflt ((with_reducible show wpAny _ _ (call (Value.ref 35) [Value.ref _]) _ _ _); k_here; k_dflt (refine' gen_any _ _ _ _ ?hr ?F ?X ?N ?T ?room ?_; (case hr => assumption); (case F => k_asm); (case X => k_asm); (case N => k_asm); (case T => k_asm); (case room => ktr_room)); intro _ _ _ _ _ _ _ _ _ _ _ _ _ _ _ _; (try k_fold))) | ((with_reducible show wpAny _ _ (call (Value.ref _) _) _ _ _); k_dflt ((with_reducible show wpAny _ _ (call (Value.ref 70) [Value.int _ _]) _ _ _); k_here; k_dflt (refine' Con.use ?k1 ?k2 ?k3 ?k4 ?k5 ?kK (ruler_con _ _ _ _ _ _) ?kd ?ku ?kp ?_; (case k1 => k_asm); (case k2 => k_asm); (case k3 => k_asm); (case k4 => k_asm); (case k5 => k_asm); (case kK => first | exact rfl | assumption); (case kp => trivial); (case kd => ktr_room); (case ku => ktr_units); k_whole); intro _ _ _ _ _ N9 _ hout9; obtain ⟨l9, ta9, tb9, tc9, td9, vs9, e91, e92, hr9⟩ := hout9; subst e91; subst e92; (dsimp only [List.cons_append, List.nil_append] at N9); (try k_fold))) | ((with_reducible show wpAny _ _ (call (Value.ref _) _) _ _ _); k_dflt ((with_reducible show wpAny _ _ (call (Value.ref 63) [Value.int _ _, Value.int _ _]) _ _ _); k_here; k_dflt (refine' Con.use ?k1 ?k2 ?k3 ?k4 ?k5 ?kK (spot_con _ _ _ _ _ _ _ _ ?hok) ?kd ?ku ?kp ?_; (case k1 => k_asm); (case k2 => k_asm); (case k3 => k_asm); (case k4 => k_asm); (case k5 => k_asm); (case kK => first | exact rfl | assumption); (case kp => trivial); (case kd => ktr_room); (case ku => ktr_units); (case hok => exact spot_ok (by first | with_reducible assumption | omega) (by first | exact lt36 (by with_reducible assumption) (by with_reducible assumption) | omega) (by assumption)); k_whole); refine el_int ?_; intro _ _ _ _ N9 _; (dsimp only [List.cons_append, List.nil_append] at N9); (try k_fold))))) | walk1 | (dsimp only; walk1) | (leave1; walk_say "STEP leave1"; try dsimp only) | fail "no step"))
  rename_i e1 i1 h1 oe1 oi1 en1 il1 F1 N1 hlt1 hlt2
  (rename IntsAre _ (List.take _ _) => I2)
  (rename IntsAre _ (List.flatten _) => I3)
  (rename (_ < _ ∧ AllLt _ news) => hP1)
  (rename (_ < _ ∧ _ < _ ∧ AllLt _ news) => hS1)
  k_dflt (refine' e_loop ?ahh ?axi ?axv ?ap ?aE F1 N1 (Nat.ne_of_lt hlt2) (Nat.ne_of_lt (Nat.lt_trans (hlt1 _ (.head _)) hlt2)) (Nat.ne_of_lt (hlt1 _ (.head _))) (fun q hq => ⟨Nat.ne_of_lt (Nat.lt_trans (hlt1 q (.tail _ hq)) hlt2), Nat.ne_of_lt (hlt1 q (.tail _ hq))⟩) en1 il1 (JE _ _ n _ (outP n (List.take (min 3 cs.length - 1) (List.drop 1 cs)) (List.replicate n.toNat [2]).flatten)) ⟨_, _, ?am, rfl, ?ai, I3.length.trans (by simp)⟩ ?astep ?adone)
  (case ahh => exact rfl)
  (case axi => exact rfl)
  (case axv => exact rfl)
  (case ap => exact rfl)
  (case aE => passes_own)
  (case ai => rw [outP_zero]; exact I3)
  (case am => funext y; exact (ite_self _).symm)
  · rintro i v t oe oi m₁ news₁ h tk g₁ hv ⟨u, vals, rfl, rfl, hI, hl⟩ hoff F3 N3
    (try ((with_reducible show wpAny _ _ _ _ _ _); k_fold)); (try (with_reducible refine any_tk ?_; intro _))
    clear F1 N1
    obtain ⟨c, tc, rfl, hc⟩ := ints_back I2 hv
    dsimp only [List.cons_append, List.nil_append] at N3
    have hcb := cnt_b c
    have hil := items_len c
    (try ((with_reducible show wpAny _ _ _ _ _ _); k_fold)); (try (with_reducible refine any_tk ?_; intro _)); (repeat' (first | (k_unfold; (try dsimp only)) | (k_end; wrow_close) | ((with_reducible show wpAny _ _ (execs (_ :: _) _) _ _ _); (with_reducible refine any_tk ?_); intro _) | ((with_reducible show wpAny _ _ (exec _ _) _ _ _); (first | ((with_reducible show wpAny _ _ (exec (PySem.Stmt.For (PySem.Expr.Name _ _) (PySem.Expr.Call _ _ _ _) _ _ _) _) _ _ _); k_dflt (k_here; (with_reducible show wpAny _ _ (exec (Stmt.For (Expr.Name _ _) (Expr.Call _ _ _ _) _ _ _) _) _ _ _); k_dflt (refine for_g ?_))) | ((with_reducible show wpAny _ _ (exec (PySem.Stmt.For (PySem.Expr.Tuple _ _ _) (PySem.Expr.Call _ _ _ _) _ _ _) _) _ _ _); k_dflt (k_here; (with_reducible show wpAny _ _ (exec (Stmt.For (Expr.Tuple _ _ _) (Expr.Call _ _ _ _) _ _ _) _) _ _ _); k_dflt (refine for_g ?_))) | ((with_reducible show wpAny _ _ (exec (PySem.Stmt.For (PySem.Expr.Name _ _) (PySem.Expr.Subscript _ _ _) _ _ _) _) _ _ _); k_dflt (k_here; (with_reducible show wpAny _ _ (exec (Stmt.For (Expr.Name _ _) (Expr.Subscript _ _ _) _ _ _) _) _ _ _); (rename Fr _ _ _ _ => F9); k_dflt (refine for_m F9 (by rfl) (by rfl) ?_))))) | ((with_reducible show wpAny _ _ (setItem (Value.ref _) (Value.int _ _) _) _ _ _); k_dflt (k_here; k_dflt (refine' list_storeP ?F ?ha ?hb ?N ?h0 ?hn ?hf ?_; (case F => k_asm); (case ha => assumption); (case hb => assumption); (case N => assumption); (case h0 => exact (fmod_b (by assumption) _).1); (case hn => exact fmod_lt_len (by assumption) (by assumption)); (case hf => assumption)); intro _ _ _)) | ((with_reducible show wpAny _ _ (pyIter (Value.ref _)) _ _ _); k_dflt (k_here; first | (refine' wpAny_pyIter_gen ?hg ?_; (case hg => assumption)) | (refine' e_iter ?he ?_; (case he => assumption)))) | ((with_reducible show wpAny _ _ (call _ _) _ _ _); (first | ((with_reducible show wpAny _ _ (call (Value.type "enumerate") [Value.ref _]) _ _ _); k_dflt (k_here; k_dflt (refine' e_make ?F ?N ?hm ?_; (case F => k_asm); (case N => k_asm); (case hm => k_mem)); intro _ _ _ _ _ _ _ _ _ _ _)) | ((with_reducible show wpAny _ _ (call (Value.ref _) _) _ _ _); k_dflt ((with_reducible show wpAny _ _ (call (Value.ref 35) [Value.ref _]) _ _ _); k_here; k_dflt (refine' gen_any _ _ _ _ ?hr ?F ?X ?N ?T ?room ?_; (case hr => assumption); (case F => k_asm); (case X => k_asm); (case N => k_asm); (case T => k_asm); (case room => ktr_room)); intro _ _ _ _ _ _ _ _ _ _ _ _ _ _ _ _; (try k_fold))) | ((with_reducible show wpAny _ _ (call (Value.ref _) _) _ _ _); k_dflt ((with_reducible show wpAny _ _ (call (Value.ref 70) [Value.int _ _]) _ _ _); k_here; k_dflt (refine' Con.use ?k1 ?k2 ?k3 ?k4 ?k5 ?kK (ruler_con _ _ _ _ _ _) ?kd ?ku ?kp ?_; (case k1 => k_asm); (case k2 => k_asm); (case k3 => k_asm); (case k4 => k_asm); (case k5 => k_asm); (case kK => first | exact rfl | assumption); (case kp => trivial); (case kd => ktr_room); (case ku => ktr_units); k_whole); intro _ _ _ _ _ N9 _ hout9; obtain ⟨l9, ta9, tb9, tc9, td9, vs9, e91, e92, hr9⟩ := hout9; subst e91; subst e92; (dsimp only [List.cons_append, List.nil_append] at N9); (try k_fold))) | ((with_reducible show wpAny _ _ (call (Value.ref _) _) _ _ _); k_dflt ((with_reducible show wpAny _ _ (call (Value.ref 63) [Value.int _ _, Value.int _ _]) _ _ _); k_here; k_dflt (refine' Con.use ?k1 ?k2 ?k3 ?k4 ?k5 ?kK (spot_con _ _ _ _ _ _ _ _ ?hok) ?kd ?ku ?kp ?_; (case k1 => k_asm); (case k2 => k_asm); (case k3 => k_asm); (case k4 => k_asm); (case k5 => k_asm); (case kK => first | exact rfl | assumption); (case kp => trivial); (case kd => ktr_room); (case ku => ktr_units); (case hok => exact spot_ok (by first | with_reducible assumption | omega) (by first | exact lt36 (by with_reducible assumption) (by with_reducible assumption) | omega) (by assumption)); k_whole); refine el_int ?_; intro _ _ _ _ N9 _; (dsimp only [List.cons_append, List.nil_append] at N9); (try k_fold))))) | walk1 | (dsimp only; walk1) | (leave1; walk_say "STEP leave1"; try dsimp only) | fail "no step"))
    rename_i C G oC oG h2 tk2 gs F4 N4 hlC hCG hns hig hC0 hb GF
    (rename (_ < _ ∧ _ < _ ∧ _ < _ ∧ _ < _ ∧ _ < _ ∧ AllLt _ news) => hT1)
    (rename (∀ q ∈ _, ∀ p ∈ [(_, _)], _ < _) => ho9)
    k_dflt (refine' g_loop (cntF c) (by omega) ?bend hil.1 ?bhh ?broom (by assumption) ?bx ?bp ?bE F4 (news_pull N4) (Nat.ne_of_lt (hlC _ (.head _))) hCG (fun q hq => Nat.ne_of_lt (hlC q (mem_pull hq))) (fun q hq => Nat.ne_of_lt (Nat.lt_trans (hlC q (mem_pull hq)) hCG)) (Nat.ne_of_lt (Nat.lt_trans (hlC _ (.head _)) hCG)) hns hC0 hig ?bgs hb GF (JG _ _ n _ (walkT (itemsF c)) (walkP n i (itemsF c) (outP n (List.take (min 3 cs.length - 1) (List.drop 1 cs)) (List.replicate n.toNat [2]).flatten i))) (JG.start (walkT_zero _) ?bi hl) ?bstep ?bdone)
    (case bend => exact ends_or c)
    (case bhh => exact rfl)
    (case broom => ktr_room)
    (case bx => exact rfl)
    (case bp => exact rfl)
    (case bE => passes_own)
    (case bgs => exact Array.getElem?_push_size ..)
    (case bi => rw [walkP_zero]; exact hI)
    · rintro j y ty It oI oC' m₂ news₂ h3 tk3 g3 hy hj ⟨u2, t1, t2, vals2, rfl, rfl, hI2, hl2⟩ hItoff F5 N6
      (try ((with_reducible show wpAny _ _ _ _ _ _); k_fold)); (try (with_reducible refine any_tk ?_; intro _))
      clear F4 N4
      have hwb := walkT_b (items_b c) j (by have := (List.getElem?_eq_some_iff.mp hy).1; omega)
      have hyb := items_b c y (List.mem_of_getElem? hy)
      have hj5 : (j : Int) < 5 := lt5 (by assumption) hj
      have hlen9 := len9 hn hl2
      have hp1 := hItoff _ (.head _)
      have hp2 := hlC _ (mem_pull (.head _))
      have hp3 := ho9 _ (.tail _ (.tail _ (.tail _ (.tail _ (.head _))))) _ (.head _)
      have hp4 := hoff _ (.head _)
      dsimp only at hp1 hp2 hp3 hp4
      have hpre9 := pre_of N6 hp1 hp2 hp3 hCG
      have hpost9 := post_of N6 (Nat.ne_of_gt hT1.2.2.2.1) (Ne.symm hp4.1) (Ne.symm hp4.2) (Nat.ne_of_gt hS1.1) (Nat.ne_of_lt hP1.1) (fun q hq => Nat.ne_of_lt (allLt_mem hP1.2 q hq))
      (try ((with_reducible show wpAny _ _ _ _ _ _); k_fold)); (try (with_reducible refine any_tk ?_; intro _)); (repeat' (first | (k_unfold; (try dsimp only)) | (k_end; wrow_close) | ((with_reducible show wpAny _ _ (execs (_ :: _) _) _ _ _); (with_reducible refine any_tk ?_); intro _) | ((with_reducible show wpAny _ _ (exec _ _) _ _ _); (first | ((with_reducible show wpAny _ _ (exec (PySem.Stmt.For (PySem.Expr.Name _ _) (PySem.Expr.Call _ _ _ _) _ _ _) _) _ _ _); k_dflt (k_here; (with_reducible show wpAny _ _ (exec (Stmt.For (Expr.Name _ _) (Expr.Call _ _ _ _) _ _ _) _) _ _ _); k_dflt (refine for_g ?_))) | ((with_reducible show wpAny _ _ (exec (PySem.Stmt.For (PySem.Expr.Tuple _ _ _) (PySem.Expr.Call _ _ _ _) _ _ _) _) _ _ _); k_dflt (k_here; (with_reducible show wpAny _ _ (exec (Stmt.For (Expr.Tuple _ _ _) (Expr.Call _ _ _ _) _ _ _) _) _ _ _); k_dflt (refine for_g ?_))) | ((with_reducible show wpAny _ _ (exec (PySem.Stmt.For (PySem.Expr.Name _ _) (PySem.Expr.Subscript _ _ _) _ _ _) _) _ _ _); k_dflt (k_here; (with_reducible show wpAny _ _ (exec (Stmt.For (Expr.Name _ _) (Expr.Subscript _ _ _) _ _ _) _) _ _ _); (rename Fr _ _ _ _ => F9); k_dflt (refine for_m F9 (by rfl) (by rfl) ?_))))) | ((with_reducible show wpAny _ _ (setItem (Value.ref _) (Value.int _ _) _) _ _ _); k_dflt (k_here; k_dflt (refine' list_storeP ?F ?ha ?hb ?N ?h0 ?hn ?hf ?_; (case F => k_asm); (case ha => assumption); (case hb => assumption); (case N => assumption); (case h0 => exact (fmod_b (by assumption) _).1); (case hn => exact fmod_lt_len (by assumption) (by assumption)); (case hf => assumption)); intro _ _ _)) | ((with_reducible show wpAny _ _ (pyIter (Value.ref _)) _ _ _); k_dflt (k_here; first | (refine' wpAny_pyIter_gen ?hg ?_; (case hg => assumption)) | (refine' e_iter ?he ?_; (case he => assumption)))) | ((with_reducible show wpAny _ _ (call _ _) _ _ _); (first | ((with_reducible show wpAny _ _ (call (Value.type "enumerate") [Value.ref _]) _ _ _); k_dflt (k_here; k_dflt (refine' e_make ?F ?N ?hm ?_; (case F => k_asm); (case N => k_asm); (case hm => k_mem)); intro _ _ _ _ _ _ _ _ _ _ _)) | ((with_reducible show wpAny _ _ (call (Value.ref _) _) _ _ _); k_dflt ((with_reducible show wpAny _ _ (call (Value.ref 35) [Value.ref _]) _ _ _); k_here; k_dflt (refine' gen_any _ _ _ _ ?hr ?F ?X ?N ?T ?room ?_; (case hr => assumption); (case F => k_asm); (case X => k_asm); (case N => k_asm); (case T => k_asm); (case room => ktr_room)); intro _ _ _ _ _ _ _ _ _ _ _ _ _ _ _ _; (try k_fold))) | ((with_reducible show wpAny _ _ (call (Value.ref _) _) _ _ _); k_dflt ((with_reducible show wpAny _ _ (call (Value.ref 70) [Value.int _ _]) _ _ _); k_here; k_dflt (refine' Con.use ?k1 ?k2 ?k3 ?k4 ?k5 ?kK (ruler_con _ _ _ _ _ _) ?kd ?ku ?kp ?_; (case k1 => k_asm); (case k2 => k_asm); (case k3 => k_asm); (case k4 => k_asm); (case k5 => k_asm); (case kK => first | exact rfl | assumption); (case kp => trivial); (case kd => ktr_room); (case ku => ktr_units); k_whole); intro _ _ _ _ _ N9 _ hout9; obtain ⟨l9, ta9, tb9, tc9, td9, vs9, e91, e92, hr9⟩ := hout9; subst e91; subst e92; (dsimp only [List.cons_append, List.nil_append] at N9); (try k_fold))) | ((with_reducible show wpAny _ _ (call (Value.ref _) _) _ _ _); k_dflt ((with_reducible show wpAny _ _ (call (Value.ref 63) [Value.int _ _, Value.int _ _]) _ _ _); k_here; k_dflt (refine' Con.use ?k1 ?k2 ?k3 ?k4 ?k5 ?kK (spot_con _ _ _ _ _ _ _ _ ?hok) ?kd ?ku ?kp ?_; (case k1 => k_asm); (case k2 => k_asm); (case k3 => k_asm); (case k4 => k_asm); (case k5 => k_asm); (case kK => first | exact rfl | assumption); (case kp => trivial); (case kd => ktr_room); (case ku => ktr_units); (case hok => exact spot_ok (by first | with_reducible assumption | omega) (by first | exact lt36 (by with_reducible assumption) (by with_reducible assumption) | omega) (by assumption)); k_whole); refine el_int ?_; intro _ _ _ _ N9 _; (dsimp only [List.cons_append, List.nil_append] at N9); (try k_fold))))) | walk1 | (dsimp only; walk1) | (leave1; walk_say "STEP leave1"; try dsimp only) | fail "no step"))
      · (rename Fr _ _ _ _ => F7)
        (rename News _ _ _ _ => N7)
        k_dflt (refine' GEnd.brk (cnt_iff.mpr (by assumption)) F7 N7 rfl (JG.step (by push_cast; rfl) (walkT_succ hy) ?bi1 (by rw [List.length_set]; exact hl2)))
        (case bi1 => rw [walkP_succ hy]; exact ints_set hI2 _ _ _)
      · (rename Fr _ _ _ _ => F7)
        (rename News _ _ _ _ => N7)
        k_dflt (refine' GEnd.next (fun e => absurd (cnt_iff.mp e) (by assumption)) F7 N7 rfl (JG.step (by push_cast; rfl) (walkT_succ hy) ?bi2 (by rw [List.length_set]; exact hl2)))
        (case bi2 => rw [walkP_succ hy]; exact ints_set hI2 _ _ _)
    · rintro h3 tk3 g3 m₂ news₂ hgo F5 N6 ⟨u2, t1, t2, vals2, rfl, rfl, hI2, hl2⟩
      (try ((with_reducible show wpAny _ _ _ _ _ _); k_fold)); (try (with_reducible refine any_tk ?_; intro _))
      clear F4 N4
      (try ((with_reducible show wpAny _ _ _ _ _ _); k_fold)); (try (with_reducible refine any_tk ?_; intro _)); (repeat' (first | (k_unfold; (try dsimp only)) | (k_end; wrow_close) | ((with_reducible show wpAny _ _ (execs (_ :: _) _) _ _ _); (with_reducible refine any_tk ?_); intro _) | ((with_reducible show wpAny _ _ (exec _ _) _ _ _); (first | ((with_reducible show wpAny _ _ (exec (PySem.Stmt.For (PySem.Expr.Name _ _) (PySem.Expr.Call _ _ _ _) _ _ _) _) _ _ _); k_dflt (k_here; (with_reducible show wpAny _ _ (exec (Stmt.For (Expr.Name _ _) (Expr.Call _ _ _ _) _ _ _) _) _ _ _); k_dflt (refine for_g ?_))) | ((with_reducible show wpAny _ _ (exec (PySem.Stmt.For (PySem.Expr.Tuple _ _ _) (PySem.Expr.Call _ _ _ _) _ _ _) _) _ _ _); k_dflt (k_here; (with_reducible show wpAny _ _ (exec (Stmt.For (Expr.Tuple _ _ _) (Expr.Call _ _ _ _) _ _ _) _) _ _ _); k_dflt (refine for_g ?_))) | ((with_reducible show wpAny _ _ (exec (PySem.Stmt.For (PySem.Expr.Name _ _) (PySem.Expr.Subscript _ _ _) _ _ _) _) _ _ _); k_dflt (k_here; (with_reducible show wpAny _ _ (exec (Stmt.For (Expr.Name _ _) (Expr.Subscript _ _ _) _ _ _) _) _ _ _); (rename Fr _ _ _ _ => F9); k_dflt (refine for_m F9 (by rfl) (by rfl) ?_))))) | ((with_reducible show wpAny _ _ (setItem (Value.ref _) (Value.int _ _) _) _ _ _); k_dflt (k_here; k_dflt (refine' list_storeP ?F ?ha ?hb ?N ?h0 ?hn ?hf ?_; (case F => k_asm); (case ha => assumption); (case hb => assumption); (case N => assumption); (case h0 => exact (fmod_b (by assumption) _).1); (case hn => exact fmod_lt_len (by assumption) (by assumption)); (case hf => assumption)); intro _ _ _)) | ((with_reducible show wpAny _ _ (pyIter (Value.ref _)) _ _ _); k_dflt (k_here; first | (refine' wpAny_pyIter_gen ?hg ?_; (case hg => assumption)) | (refine' e_iter ?he ?_; (case he => assumption)))) | ((with_reducible show wpAny _ _ (call _ _) _ _ _); (first | ((with_reducible show wpAny _ _ (call (Value.type "enumerate") [Value.ref _]) _ _ _); k_dflt (k_here; k_dflt (refine' e_make ?F ?N ?hm ?_; (case F => k_asm); (case N => k_asm); (case hm => k_mem)); intro _ _ _ _ _ _ _ _ _ _ _)) | ((with_reducible show wpAny _ _ (call (Value.ref _) _) _ _ _); k_dflt ((with_reducible show wpAny _ _ (call (Value.ref 35) [Value.ref _]) _ _ _); k_here; k_dflt (refine' gen_any _ _ _ _ ?hr ?F ?X ?N ?T ?room ?_; (case hr => assumption); (case F => k_asm); (case X => k_asm); (case N => k_asm); (case T => k_asm); (case room => ktr_room)); intro _ _ _ _ _ _ _ _ _ _ _ _ _ _ _ _; (try k_fold))) | ((with_reducible show wpAny _ _ (call (Value.ref _) _) _ _ _); k_dflt ((with_reducible show wpAny _ _ (call (Value.ref 70) [Value.int _ _]) _ _ _); k_here; k_dflt (refine' Con.use ?k1 ?k2 ?k3 ?k4 ?k5 ?kK (ruler_con _ _ _ _ _ _) ?kd ?ku ?kp ?_; (case k1 => k_asm); (case k2 => k_asm); (case k3 => k_asm); (case k4 => k_asm); (case k5 => k_asm); (case kK => first | exact rfl | assumption); (case kp => trivial); (case kd => ktr_room); (case ku => ktr_units); k_whole); intro _ _ _ _ _ N9 _ hout9; obtain ⟨l9, ta9, tb9, tc9, td9, vs9, e91, e92, hr9⟩ := hout9; subst e91; subst e92; (dsimp only [List.cons_append, List.nil_append] at N9); (try k_fold))) | ((with_reducible show wpAny _ _ (call (Value.ref _) _) _ _ _); k_dflt ((with_reducible show wpAny _ _ (call (Value.ref 63) [Value.int _ _, Value.int _ _]) _ _ _); k_here; k_dflt (refine' Con.use ?k1 ?k2 ?k3 ?k4 ?k5 ?kK (spot_con _ _ _ _ _ _ _ _ ?hok) ?kd ?ku ?kp ?_; (case k1 => k_asm); (case k2 => k_asm); (case k3 => k_asm); (case k4 => k_asm); (case k5 => k_asm); (case kK => first | exact rfl | assumption); (case kp => trivial); (case kd => ktr_room); (case ku => ktr_units); (case hok => exact spot_ok (by first | with_reducible assumption | omega) (by first | exact lt36 (by with_reducible assumption) (by with_reducible assumption) | omega) (by assumption)); k_whole); refine el_int ?_; intro _ _ _ _ N9 _; (dsimp only [List.cons_append, List.nil_append] at N9); (try k_fold))))) | walk1 | (dsimp only; walk1) | (leave1; walk_say "STEP leave1"; try dsimp only) | fail "no step"))
      k_dflt (refine' EEnd.intro ((BareTo.push hb).trans (BareTo.only hgo)) F5 (news_back N6) rfl (JE.step ?ci hl2))
      (case ci => rw [outP_succ hc]; exact hI2)
  · rintro h3 tk3 g3 m₂ news₂ hbare F5 N6 ⟨u2, vals2, rfl, rfl, hI2, hl2⟩
    (try ((with_reducible show wpAny _ _ _ _ _ _); k_fold)); (try (with_reducible refine any_tk ?_; intro _))
    clear F1 N1
    (try ((with_reducible show wpAny _ _ _ _ _ _); k_fold)); (try (with_reducible refine any_tk ?_; intro _)); (repeat' (first | (k_unfold; (try dsimp only)) | (k_end; wrow_close) | ((with_reducible show wpAny _ _ (execs (_ :: _) _) _ _ _); (with_reducible refine any_tk ?_); intro _) | ((with_reducible show wpAny _ _ (exec _ _) _ _ _); (first | ((with_reducible show wpAny _ _ (exec (PySem.Stmt.For (PySem.Expr.Name _ _) (PySem.Expr.Call _ _ _ _) _ _ _) _) _ _ _); k_dflt (k_here; (with_reducible show wpAny _ _ (exec (Stmt.For (Expr.Name _ _) (Expr.Call _ _ _ _) _ _ _) _) _ _ _); k_dflt (refine for_g ?_))) | ((with_reducible show wpAny _ _ (exec (PySem.Stmt.For (PySem.Expr.Tuple _ _ _) (PySem.Expr.Call _ _ _ _) _ _ _) _) _ _ _); k_dflt (k_here; (with_reducible show wpAny _ _ (exec (Stmt.For (Expr.Tuple _ _ _) (Expr.Call _ _ _ _) _ _ _) _) _ _ _); k_dflt (refine for_g ?_))) | ((with_reducible show wpAny _ _ (exec (PySem.Stmt.For (PySem.Expr.Name _ _) (PySem.Expr.Subscript _ _ _) _ _ _) _) _ _ _); k_dflt (k_here; (with_reducible show wpAny _ _ (exec (Stmt.For (Expr.Name _ _) (Expr.Subscript _ _ _) _ _ _) _) _ _ _); (rename Fr _ _ _ _ => F9); k_dflt (refine for_m F9 (by rfl) (by rfl) ?_))))) | ((with_reducible show wpAny _ _ (setItem (Value.ref _) (Value.int _ _) _) _ _ _); k_dflt (k_here; k_dflt (refine' list_storeP ?F ?ha ?hb ?N ?h0 ?hn ?hf ?_; (case F => k_asm); (case ha => assumption); (case hb => assumption); (case N => assumption); (case h0 => exact (fmod_b (by assumption) _).1); (case hn => exact fmod_lt_len (by assumption) (by assumption)); (case hf => assumption)); intro _ _ _)) | ((with_reducible show wpAny _ _ (pyIter (Value.ref _)) _ _ _); k_dflt (k_here; first | (refine' wpAny_pyIter_gen ?hg ?_; (case hg => assumption)) | (refine' e_iter ?he ?_; (case he => assumption)))) | ((with_reducible show wpAny _ _ (call _ _) _ _ _); (first | ((with_reducible show wpAny _ _ (call (Value.type "enumerate") [Value.ref _]) _ _ _); k_dflt (k_here; k_dflt (refine' e_make ?F ?N ?hm ?_; (case F => k_asm); (case N => k_asm); (case hm => k_mem)); intro _ _ _ _ _ _ _ _ _ _ _)) | ((with_reducible show wpAny _ _ (call (Value.ref _) _) _ _ _); k_dflt ((with_reducible show wpAny _ _ (call (Value.ref 35) [Value.ref _]) _ _ _); k_here; k_dflt (refine' gen_any _ _ _ _ ?hr ?F ?X ?N ?T ?room ?_; (case hr => assumption); (case F => k_asm); (case X => k_asm); (case N => k_asm); (case T => k_asm); (case room => ktr_room)); intro _ _ _ _ _ _ _ _ _ _ _ _ _ _ _ _; (try k_fold))) | ((with_reducible show wpAny _ _ (call (Value.ref _) _) _ _ _); k_dflt ((with_reducible show wpAny _ _ (call (Value.ref 70) [Value.int _ _]) _ _ _); k_here; k_dflt (refine' Con.use ?k1 ?k2 ?k3 ?k4 ?k5 ?kK (ruler_con _ _ _ _ _ _) ?kd ?ku ?kp ?_; (case k1 => k_asm); (case k2 => k_asm); (case k3 => k_asm); (case k4 => k_asm); (case k5 => k_asm); (case kK => first | exact rfl | assumption); (case kp => trivial); (case kd => ktr_room); (case ku => ktr_units); k_whole); intro _ _ _ _ _ N9 _ hout9; obtain ⟨l9, ta9, tb9, tc9, td9, vs9, e91, e92, hr9⟩ := hout9; subst e91; subst e92; (dsimp only [List.cons_append, List.nil_append] at N9); (try k_fold))) | ((with_reducible show wpAny _ _ (call (Value.ref _) _) _ _ _); k_dflt ((with_reducible show wpAny _ _ (call (Value.ref 63) [Value.int _ _, Value.int _ _]) _ _ _); k_here; k_dflt (refine' Con.use ?k1 ?k2 ?k3 ?k4 ?k5 ?kK (spot_con _ _ _ _ _ _ _ _ ?hok) ?kd ?ku ?kp ?_; (case k1 => k_asm); (case k2 => k_asm); (case k3 => k_asm); (case k4 => k_asm); (case k5 => k_asm); (case kK => first | exact rfl | assumption); (case kp => trivial); (case kd => ktr_room); (case ku => ktr_units); (case hok => exact spot_ok (by first | with_reducible assumption | omega) (by first | exact lt36 (by with_reducible assumption) (by with_reducible assumption) | omega) (by assumption)); k_whole); refine el_int ?_; intro _ _ _ _ N9 _; (dsimp only [List.cons_append, List.nil_append] at N9); (try k_fold))))) | walk1 | (dsimp only; walk1) | (leave1; walk_say "STEP leave1"; try dsimp only) | fail "no step"))
    (rename IntsAre _ (List.drop 3 _) => I4)
    (rename (_ < _ ∧ _ < _ ∧ _ < _ ∧ AllLt _ news) => hS2)
    (rename Fr _ _ _ _ => F7)
    (rename News _ _ _ _ => N7)
    k_dflt (refine' l_loop ?dhh F7 (news_front N7) (.tail _ (.head _)) (JL _ _ n _ (lastP n (List.drop 3 cs) (outP n (List.take (min 3 cs.length - 1) (List.drop 1 cs)) (List.replicate n.toNat [2]).flatten (List.take (min 3 cs.length - 1) (List.drop 1 cs)).length))) (JL.start ?di hl2) ?dstep ?ddone)
    (case dhh => exact rfl)
    (case di => rw [lastP_zero, ← I2.length]; exact hI2)
    · rintro j v it m₁ news₁ h4 tk4 own hv ⟨u1, u3, vals3, rfl, rfl, hI3, hl3⟩ hnw hown F5 N6
      (try ((with_reducible show wpAny _ _ _ _ _ _); k_fold)); (try (with_reducible refine any_tk ?_; intro _))
      clear F7 N7
      obtain ⟨c, tc, rfl, hc⟩ := ints_back I4 hv
      have hb3 := fmod_b (pos3 hn0) c
      have hb4 := hb3.1
      have hlen9 := len9 hn hl3
      have hpre9 := off_own hown (hnw _ (.head _)) hS2.2.1
      have hpost9 := off_post3N N6 hS2.2.1 hS1.1 hP1.1 hP1.2
      (try ((with_reducible show wpAny _ _ _ _ _ _); k_fold)); (try (with_reducible refine any_tk ?_; intro _)); (repeat' (first | (k_unfold; (try dsimp only)) | (k_end; wrow_close) | ((with_reducible show wpAny _ _ (execs (_ :: _) _) _ _ _); (with_reducible refine any_tk ?_); intro _) | ((with_reducible show wpAny _ _ (exec _ _) _ _ _); (first | ((with_reducible show wpAny _ _ (exec (PySem.Stmt.For (PySem.Expr.Name _ _) (PySem.Expr.Call _ _ _ _) _ _ _) _) _ _ _); k_dflt (k_here; (with_reducible show wpAny _ _ (exec (Stmt.For (Expr.Name _ _) (Expr.Call _ _ _ _) _ _ _) _) _ _ _); k_dflt (refine for_g ?_))) | ((with_reducible show wpAny _ _ (exec (PySem.Stmt.For (PySem.Expr.Tuple _ _ _) (PySem.Expr.Call _ _ _ _) _ _ _) _) _ _ _); k_dflt (k_here; (with_reducible show wpAny _ _ (exec (Stmt.For (Expr.Tuple _ _ _) (Expr.Call _ _ _ _) _ _ _) _) _ _ _); k_dflt (refine for_g ?_))) | ((with_reducible show wpAny _ _ (exec (PySem.Stmt.For (PySem.Expr.Name _ _) (PySem.Expr.Subscript _ _ _) _ _ _) _) _ _ _); k_dflt (k_here; (with_reducible show wpAny _ _ (exec (Stmt.For (Expr.Name _ _) (Expr.Subscript _ _ _) _ _ _) _) _ _ _); (rename Fr _ _ _ _ => F9); k_dflt (refine for_m F9 (by rfl) (by rfl) ?_))))) | ((with_reducible show wpAny _ _ (setItem (Value.ref _) (Value.int _ _) _) _ _ _); k_dflt (k_here; k_dflt (refine' list_storeP ?F ?ha ?hb ?N ?h0 ?hn ?hf ?_; (case F => k_asm); (case ha => assumption); (case hb => assumption); (case N => assumption); (case h0 => exact (fmod_b (by assumption) _).1); (case hn => exact fmod_lt_len (by assumption) (by assumption)); (case hf => assumption)); intro _ _ _)) | ((with_reducible show wpAny _ _ (pyIter (Value.ref _)) _ _ _); k_dflt (k_here; first | (refine' wpAny_pyIter_gen ?hg ?_; (case hg => assumption)) | (refine' e_iter ?he ?_; (case he => assumption)))) | ((with_reducible show wpAny _ _ (call _ _) _ _ _); (first | ((with_reducible show wpAny _ _ (call (Value.type "enumerate") [Value.ref _]) _ _ _); k_dflt (k_here; k_dflt (refine' e_make ?F ?N ?hm ?_; (case F => k_asm); (case N => k_asm); (case hm => k_mem)); intro _ _ _ _ _ _ _ _ _ _ _)) | ((with_reducible show wpAny _ _ (call (Value.ref _) _) _ _ _); k_dflt ((with_reducible show wpAny _ _ (call (Value.ref 35) [Value.ref _]) _ _ _); k_here; k_dflt (refine' gen_any _ _ _ _ ?hr ?F ?X ?N ?T ?room ?_; (case hr => assumption); (case F => k_asm); (case X => k_asm); (case N => k_asm); (case T => k_asm); (case room => ktr_room)); intro _ _ _ _ _ _ _ _ _ _ _ _ _ _ _ _; (try k_fold))) | ((with_reducible show wpAny _ _ (call (Value.ref _) _) _ _ _); k_dflt ((with_reducible show wpAny _ _ (call (Value.ref 70) [Value.int _ _]) _ _ _); k_here; k_dflt (refine' Con.use ?k1 ?k2 ?k3 ?k4 ?k5 ?kK (ruler_con _ _ _ _ _ _) ?kd ?ku ?kp ?_; (case k1 => k_asm); (case k2 => k_asm); (case k3 => k_asm); (case k4 => k_asm); (case k5 => k_asm); (case kK => first | exact rfl | assumption); (case kp => trivial); (case kd => ktr_room); (case ku => ktr_units); k_whole); intro _ _ _ _ _ N9 _ hout9; obtain ⟨l9, ta9, tb9, tc9, td9, vs9, e91, e92, hr9⟩ := hout9; subst e91; subst e92; (dsimp only [List.cons_append, List.nil_append] at N9); (try k_fold))) | ((with_reducible show wpAny _ _ (call (Value.ref _) _) _ _ _); k_dflt ((with_reducible show wpAny _ _ (call (Value.ref 63) [Value.int _ _, Value.int _ _]) _ _ _); k_here; k_dflt (refine' Con.use ?k1 ?k2 ?k3 ?k4 ?k5 ?kK (spot_con _ _ _ _ _ _ _ _ ?hok) ?kd ?ku ?kp ?_; (case k1 => k_asm); (case k2 => k_asm); (case k3 => k_asm); (case k4 => k_asm); (case k5 => k_asm); (case kK => first | exact rfl | assumption); (case kp => trivial); (case kd => ktr_room); (case ku => ktr_units); (case hok => exact spot_ok (by first | with_reducible assumption | omega) (by first | exact lt36 (by with_reducible assumption) (by with_reducible assumption) | omega) (by assumption)); k_whole); refine el_int ?_; intro _ _ _ _ N9 _; (dsimp only [List.cons_append, List.nil_append] at N9); (try k_fold))))) | walk1 | (dsimp only; walk1) | (leave1; walk_say "STEP leave1"; try dsimp only) | fail "no step"))
      (rename Fr _ _ _ _ => F8)
      (rename News _ _ _ _ => N8)
      k_dflt (refine' jl_end F8 N8 hnw ?dj (by rw [List.length_set]; exact hl3))
      (case dj => rw [lastP_succ hc]; exact ints_set hI3 _ _ _)
    · rintro h4 tk4 m₁ news₁ F5 N6 ⟨u1, u3, vals3, rfl, rfl, hI3, hl3⟩
      (try ((with_reducible show wpAny _ _ _ _ _ _); k_fold)); (try (with_reducible refine any_tk ?_; intro _))
      clear F7 N7
      (try ((with_reducible show wpAny _ _ _ _ _ _); k_fold)); (try (with_reducible refine any_tk ?_; intro _)); (repeat' (first | (k_unfold; (try dsimp only)) | (k_end; wrow_close) | ((with_reducible show wpAny _ _ (execs (_ :: _) _) _ _ _); (with_reducible refine any_tk ?_); intro _) | ((with_reducible show wpAny _ _ (exec _ _) _ _ _); (first | ((with_reducible show wpAny _ _ (exec (PySem.Stmt.For (PySem.Expr.Name _ _) (PySem.Expr.Call _ _ _ _) _ _ _) _) _ _ _); k_dflt (k_here; (with_reducible show wpAny _ _ (exec (Stmt.For (Expr.Name _ _) (Expr.Call _ _ _ _) _ _ _) _) _ _ _); k_dflt (refine for_g ?_))) | ((with_reducible show wpAny _ _ (exec (PySem.Stmt.For (PySem.Expr.Tuple _ _ _) (PySem.Expr.Call _ _ _ _) _ _ _) _) _ _ _); k_dflt (k_here; (with_reducible show wpAny _ _ (exec (Stmt.For (Expr.Tuple _ _ _) (Expr.Call _ _ _ _) _ _ _) _) _ _ _); k_dflt (refine for_g ?_))) | ((with_reducible show wpAny _ _ (exec (PySem.Stmt.For (PySem.Expr.Name _ _) (PySem.Expr.Subscript _ _ _) _ _ _) _) _ _ _); k_dflt (k_here; (with_reducible show wpAny _ _ (exec (Stmt.For (Expr.Name _ _) (Expr.Subscript _ _ _) _ _ _) _) _ _ _); (rename Fr _ _ _ _ => F9); k_dflt (refine for_m F9 (by rfl) (by rfl) ?_))))) | ((with_reducible show wpAny _ _ (setItem (Value.ref _) (Value.int _ _) _) _ _ _); k_dflt (k_here; k_dflt (refine' list_storeP ?F ?ha ?hb ?N ?h0 ?hn ?hf ?_; (case F => k_asm); (case ha => assumption); (case hb => assumption); (case N => assumption); (case h0 => exact (fmod_b (by assumption) _).1); (case hn => exact fmod_lt_len (by assumption) (by assumption)); (case hf => assumption)); intro _ _ _)) | ((with_reducible show wpAny _ _ (pyIter (Value.ref _)) _ _ _); k_dflt (k_here; first | (refine' wpAny_pyIter_gen ?hg ?_; (case hg => assumption)) | (refine' e_iter ?he ?_; (case he => assumption)))) | ((with_reducible show wpAny _ _ (call _ _) _ _ _); (first | ((with_reducible show wpAny _ _ (call (Value.type "enumerate") [Value.ref _]) _ _ _); k_dflt (k_here; k_dflt (refine' e_make ?F ?N ?hm ?_; (case F => k_asm); (case N => k_asm); (case hm => k_mem)); intro _ _ _ _ _ _ _ _ _ _ _)) | ((with_reducible show wpAny _ _ (call (Value.ref _) _) _ _ _); k_dflt ((with_reducible show wpAny _ _ (call (Value.ref 35) [Value.ref _]) _ _ _); k_here; k_dflt (refine' gen_any _ _ _ _ ?hr ?F ?X ?N ?T ?room ?_; (case hr => assumption); (case F => k_asm); (case X => k_asm); (case N => k_asm); (case T => k_asm); (case room => ktr_room)); intro _ _ _ _ _ _ _ _ _ _ _ _ _ _ _ _; (try k_fold))) | ((with_reducible show wpAny _ _ (call (Value.ref _) _) _ _ _); k_dflt ((with_reducible show wpAny _ _ (call (Value.ref 70) [Value.int _ _]) _ _ _); k_here; k_dflt (refine' Con.use ?k1 ?k2 ?k3 ?k4 ?k5 ?kK (ruler_con _ _ _ _ _ _) ?kd ?ku ?kp ?_; (case k1 => k_asm); (case k2 => k_asm); (case k3 => k_asm); (case k4 => k_asm); (case k5 => k_asm); (case kK => first | exact rfl | assumption); (case kp => trivial); (case kd => ktr_room); (case ku => ktr_units); k_whole); intro _ _ _ _ _ N9 _ hout9; obtain ⟨l9, ta9, tb9, tc9, td9, vs9, e91, e92, hr9⟩ := hout9; subst e91; subst e92; (dsimp only [List.cons_append, List.nil_append] at N9); (try k_fold))) | ((with_reducible show wpAny _ _ (call (Value.ref _) _) _ _ _); k_dflt ((with_reducible show wpAny _ _ (call (Value.ref 63) [Value.int _ _, Value.int _ _]) _ _ _); k_here; k_dflt (refine' Con.use ?k1 ?k2 ?k3 ?k4 ?k5 ?kK (spot_con _ _ _ _ _ _ _ _ ?hok) ?kd ?ku ?kp ?_; (case k1 => k_asm); (case k2 => k_asm); (case k3 => k_asm); (case k4 => k_asm); (case k5 => k_asm); (case kK => first | exact rfl | assumption); (case kp => trivial); (case kd => ktr_room); (case ku => ktr_units); (case hok => exact spot_ok (by first | with_reducible assumption | omega) (by first | exact lt36 (by with_reducible assumption) (by with_reducible assumption) | omega) (by assumption)); k_whole); refine el_int ?_; intro _ _ _ _ N9 _; (dsimp only [List.cons_append, List.nil_append] at N9); (try k_fold))))) | walk1 | (dsimp only; walk1) | (leave1; walk_say "STEP leave1"; try dsimp only) | fail "no step"))
      (rename News h₀ _ _ _ => N10)
      exact hret _ [_] _ _ _ hbare (by assumption) (news_sub N10 fun p hp => by
        rcases List.mem_cons.mp hp with e | hp
        · rw [e]; exact .head _
        · exact .tail _ (.tail _ (.tail _ (.tail _ hp)))) (fun q hq p hp => by rw [List.mem_singleton.mp hp]; exact allLt_mem hP1.2 q hq) ⟨_, _, rfl, rfl, by rw [I4.length] at hI3; exact hI3⟩
end Mine
end

section -- D4
open PySem PySem.W PyProof.Rows PyProof.V PySem.Spec
set_option maxRecDepth 100000
namespace Mine
theorem foldl_sum : ∀ (l : List Int) (a : Int), l.foldl (fun a b => a + b) a = a + l.sum
  | [], a => by simp
  | x :: l, a => by rw [List.foldl_cons, foldl_sum l, List.sum_cons]; omega
theorem walkT_sum (its : List Int) (i : Nat) : walkT its i = (its.take i).sum := by unfold walkT; rw [foldl_sum]; omega
section
variable {prog : Program} {w : World} {A : Around} {E : Value → Shared → Prop} {s : Shared} {h₀ : Heap} {L : Addr} {m : Str → Option Value} {news : List (Addr × Obj)}
theorem list_iadd {l b : Addr} {its its2 : Array Value} {n n2 : Nat} {Q : Value → Shared → Prop} (hl : s.heap.get? l = some (W.listOf its n)) (hb : s.heap.get? b = some (W.listOf its2 n2)) (hz : its.size ≤ 1000) (hz2 : its2.size ≤ 1000)
    (h : Q (.ref l) { s with heap := s.heap.update l (Obj.mapSeq fun x => x ++ its2) }) : wpAny (model prog w) A (inplaceOp .Add (.ref l) (.ref b)) Q E s := by
  have ha : s.TypeIs (.ref l) "list" := ⟨_, hl, rfl⟩
  have hb' : s.TypeIs (.ref b) "list" := ⟨_, hb, rfl⟩
  unfold inplaceOp
  refine wpAny_holding ?_
  have hfi : fillsInplaceSlot (.type "list") "add" (Operator.Add == .Add) = pure false := by
    unfold fillsInplaceSlot
    show (typeLookup (.type "list") (dunderI "add") >>= fun fi => pure (fi.isSome && !isSeqSlot fi)) = pure false
    rw [PySem.F.slot_list_iadd.lookup]
    have e : isSeqSlot (some (.builtin "list.__iadd__")) = true := by decide +kernel
    show (pure (true && !isSeqSlot (some (.builtin "list.__iadd__"))) : Sem Bool) = pure false
    rw [e]; rfl
  have hsi : seqSlot? (.type "list") (dunderI "add") = pure (some (.builtin "list.__iadd__")) := PySem.seqSlot_of PySem.F.slot_list_iadd.lookup (by decide +kernel)
  refine wpAny_bind (wpAny_typeOf ha (wpAny_bind (wpAny_of_eq hfi ?_)))
  show wpAny _ A (if false = true then _ else _) Q E s
  rw [if_neg Bool.false_ne_true]
  refine wpAny_bind (binaryOp1_none (nm := "add") ha hb' noFill_list_add ?_)
  refine wpAny_bind (wpAny_of_eq hsi ?_)
  refine wpAny_bind (wpAny_rule ?_)
  have hs : its.size + its2.size ≤ sizeLine := by rw [sizeLine_eq]; omega
  have hlong : ¬(!its.isEmpty && Builtin.List.listTooLong (its.size + its2.size)) = true := by
    intro e
    have e2 := (Bool.and_eq_true_iff.mp e).2
    revert e2
    unfold Builtin.List.listTooLong
    simp
    omega
  exact call_meets PySem.F.slot_list_iadd ha PySem.F.entry_list_iadd (PySem.F.args_list_iadd_2 _ _) (PySem.AutoSeq1.list___iadd___list_list_0 l its n b its2 n2 hlong (by omega) (by omega)) ⟨hl, hb, h⟩
theorem inpl_k {l t1 t2 : Addr} {o2 : Obj} {vs ws : List Value} {n2 : Nat} {rest : List (Addr × Obj)} {Q : Value → Shared → Prop} (F : Fr h₀ L s.heap m) (N : News h₀ L s.heap ((t1, W.listOf ws.toArray n2) :: (t2, o2) :: (l, W.listOf vs.toArray 0) :: rest))
    (ho : ∀ p ∈ rest, p.1 ≠ l) (hz : vs.length ≤ 1000) (hz2 : ws.length ≤ 1000) (hne : ws ≠ [])
    (h : ∀ h', Fr h₀ L h' m → News h₀ L h' ((l, W.listOf (vs ++ ws).toArray 1) :: rest) → Q (.ref l) { s with heap := h' }) : wpAny (model prog w) A (inplaceOp .Add (.ref l) (.ref t1)) Q E s := by
  have z1 := N (t1, W.listOf ws.toArray n2) (.head _)
  have z := N (l, W.listOf vs.toArray 0) (.tail _ (.tail _ (.head _)))
  have N0 : News h₀ L s.heap ([] ++ (l, W.listOf vs.toArray 0) :: rest) := news_sub N fun p hp => .tail _ (.tail _ hp)
  refine list_iadd z.1 z1.1 (by simpa using hz) (by simpa using hz2) (h _ (F.change (Heap.SameBut.update ..) z.2.1 z.2.2) (ki_turn (pre := []) (fun x => x ++ ws.toArray) N0 (fun _ hp => nomatch hp) ho ?_ ?_))
  · simp
  · have : ws.length ≠ 0 := fun e => hne (List.eq_nil_of_length_eq_zero e)
    simp
    omega
theorem list_storeD {a : Addr × Obj} {pre post : List (Addr × Obj)} {P : Addr} {vs : List Value} {nn : Nat} {k : Int} {t : Tok} {v : Value} {Q : Unit → Shared → Prop} (F : Fr h₀ L s.heap m)
    (N : News h₀ L s.heap (a :: (pre ++ (P, lstO vs nn) :: post))) (ha : OffPre P pre) (hb : OffPost P post)
    (h0 : 0 ≤ k) (hn : k < vs.length) (hfit : vs.length ≤ 1000) (h : ∀ h', Fr h₀ L h' m → News h₀ L h' (pre ++ (P, lstO (vs.set k.toNat v) nn) :: post) → Q () { s with heap := h' }) : wpAny (model prog w) A (setItem (.ref P) (.int k t) v) Q E s :=
  list_storeP F ha hb (news_drop N) h0 hn hfit h
end
noncomputable def JX (stale : List Str) (m0 : Str → Option Value) (P : Addr) (n : Int) (rest : List (Addr × Obj)) (f : Nat → List Int) (i : Nat) (m' : Str → Option Value) (n' : List (Addr × Obj)) : Prop :=
  ∃ (u : Str → Option Value) (vals : List Value), m' = (fun y => if stale.contains y then u y else m0 y) ∧ n' = (P, lstO vals 0) :: rest ∧ IntsAre vals (f i) ∧ vals.length = n.toNat
theorem JX.mk {stale : List Str} {m0 m' : Str → Option Value} {P : Addr} {n : Int} {rest : List (Addr × Obj)} {f : Nat → List Int} {i : Nat} {vals : List Value} (hr : ∀ y, stale.contains y = false → m' y = m0 y) (hI : IntsAre vals (f i)) (hl : vals.length = n.toNat) :
    JX stale m0 P n rest f i m' ((P, lstO vals 0) :: rest) := by
  refine ⟨m', vals, ?_, rfl, hI, hl⟩
  funext y
  by_cases h : stale.contains y = true
  · rw [if_pos h]
  · rw [if_neg h]; exact hr y (by simpa using h)
theorem jx_end {g h2 : Heap} {L it P : Addr} {stale : List Str} {m0 m' : Str → Option Value} {n : Int} {rest own : List (Addr × Obj)} {f : Nat → List Int} {i : Nat} {vals vals' : List Value} {s₁ : Shared} {tk : Nat}
    (F : Fr g L h2 m') (N : News g L h2 (own ++ (P, lstO vals' 0) :: rest)) (hnw : ∀ p ∈ (P, lstO vals 0) :: rest, p.1 ∉ [it]) (hr : ∀ y, stale.contains y = false → m' y = m0 y)
    (hI : IntsAre vals' (f (i + 1))) (hl : vals'.length = n.toNat) : LoopStepU g L [it] own (JX stale m0 P n rest f (i + 1)) s₁ .next { s₁ with heap := h2, toks := tk } :=
  LoopStepU.intro F N (fun p hp => by
    rcases List.mem_cons.mp hp with e | hp
    · rw [e]; exact hnw (P, lstO vals 0) (.head _)
    · exact hnw p (.tail _ hp)) (JX.mk hr hI hl)
theorem ruler_two {c : Int} {ta tb tc td : Tok} {vs : List Value} (hr : (kindF c = 0 ∧ vs = [.int (sizeA c) ta, .int (sizeB c) tb]) ∨ (kindF c = 1 ∧ vs = [.int (sizeA c) ta, .int (sizeB c) tb, .int 0 tc, .int 5 td]) ∨ (kindF c = 2 ∧ vs = [.int (sizeA c) ta, .int (sizeB c) tb, .int 127 tc, .int 5 td])) :
    ∃ tl : List Int, tl.length ≤ 2 ∧ IntsAre vs (sizeA c :: sizeB c :: tl) := by
  rcases hr with ⟨_, h⟩ | ⟨_, h⟩ | ⟨_, h⟩
  · exact ⟨[], by simp, h ▸ .cons _ _ (.cons _ _ .nil)⟩
  · exact ⟨[0, 5], by simp, h ▸ .cons _ _ (.cons _ _ (.cons _ _ (.cons _ _ .nil)))⟩
  · exact ⟨[127, 5], by simp, h ▸ .cons _ _ (.cons _ _ (.cons _ _ (.cons _ _ .nil)))⟩
theorem slice_two {prog : Program} {w : World} {A : Around} {E : Value → Shared → Prop} {h₀ h : Heap} {L l : Addr} {m : Str → Option Value} {news : List (Addr × Obj)} {value slice : PySem.Expr} {vs : List Value} {a b : Int} {tl : List Int} {tk2 : Tok} {Q : Value → Shared → Prop} {g : Array GenState} {d : Drawn} {t : Nat} {os : OsState}
    (F : Fr h₀ L h m) (N : News h₀ L h news) (hm : (l, lstO vs 0) ∈ news) (hi : IntsAre vs (a :: b :: tl)) (htl : tl.length ≤ 2)
    (hq : ∀ D t1 t2 h', Fr h₀ L h' m → News h₀ L h' ((D, W.listOf #[Value.int a t1, Value.int b t2] 0) :: news) → (∀ p ∈ news, p.1 < D) → Q (.ref D) ⟨h', g, d, t, os⟩)
    (hs : subscripted slice false (.ref l) (.ref h.objs.size) = operate [.ref h.objs.size, .ref l] (getItem (.ref l) (.ref h.objs.size))) (ht : ∀ r, letTemporaryGo value (.ref l) r = pure ()) :
    wpAny (model prog w) A (subscriptTail value slice (.ref l) (.ref h.objs.size)) Q E ⟨h.push { cls := .type "slice", data := .fields #[.none, .int 2 tk2, .none] }, g, d, t, os⟩ := by
  have hl : h.IsList l vs.toArray := News.isList N hm
  refine kmk_slice_ints (s := ⟨h, g, d, t, os⟩) (ms := [a, b]) (c := 2) F N hl .none (.int 2 tk2) hi (kmk_upto hi (by decide)) rfl (fun D ws h' F' N' l1 hI _ _ => ?_) hs ht (by rw [List.size_toArray, hi.length, sizeLine_eq]; simp only [List.length_cons]; omega)
  cases hI with
  | cons _ t1 hI =>
    cases hI with
    | cons _ t2 hI =>
      cases hI
      exact hq D t1 t2 h' F' N' l1
theorem items_one {c : Int} (h : (c.fdiv 49).fmod 3 = 1) : itemsF c = [sizeA c, sizeB c] ++ [sizeB c, sizeB c, sizeB c] := by
  unfold itemsF kindF; rw [if_pos h]; rfl
theorem items_not {c : Int} (h : ¬ (c.fdiv 49).fmod 3 = 1) : itemsF c = [sizeA c, sizeB c] := by
  unfold itemsF kindF; rw [if_neg h]
theorem cnt_take (c : Int) : (2 + (c.fdiv 147).fmod 4).toNat = cntF c := rfl
theorem take_len_min (c : Int) : ((itemsF c).take (cntF c)).length = min (cntF c) (itemsF c).length := List.length_take ..
theorem due_turn {c : Int} {i : Nat} {its : List Int} (h : its = (itemsF c).take (cntF c)) (hi : i < its.length) : (its.take (i + 1)).sum = walkT (itemsF c) (i + 1) := by
  have : i < min (cntF c) (itemsF c).length := by rw [← take_len_min, ← h]; exact hi
  rw [walkT_sum, h, List.take_take, Nat.min_eq_left (by omega)]
theorem last_eq (c n : Int) (h : 0 < n) : (c.fmod (3 * n)).fmod n = c.fmod n ∧ (c.fmod (3 * n)).fdiv n = (c.fdiv n).fmod 3 := by
  rw [Int.fmod_eq_emod_of_nonneg _ (by omega), Int.fmod_eq_emod_of_nonneg _ (by omega), Int.fmod_eq_emod_of_nonneg _ (by omega), Int.fdiv_eq_ediv_of_nonneg _ (by omega), Int.fdiv_eq_ediv_of_nonneg _ (by omega), Int.fmod_eq_emod_of_nonneg _ (by omega)]
  have h1 := Int.emod_add_mul_ediv c (3 * n)
  have h2 : c / (3 * n) = c / n / 3 := by rw [Int.mul_comm, Int.ediv_ediv_of_nonneg (by omega)]
  constructor
  · exact Int.emod_emod_of_dvd c ⟨3, Int.mul_comm ..⟩
  · have h3 := Int.emod_add_mul_ediv c n
    have h4 := Int.emod_add_mul_ediv (c / n) 3
    rw [h2] at h1
    have e : c % (3 * n) = c % n + n * (c / n % 3) := by
      have e1 : n * (c / n) = n * (c / n % 3) + n * (3 * (c / n / 3)) := by rw [← Int.mul_add, h4]
      have e2 : 3 * n * (c / n / 3) = n * (3 * (c / n / 3)) := by rw [Int.mul_comm 3 n, Int.mul_assoc]
      omega
    rw [e, Int.add_mul_ediv_left _ _ (by omega), Int.ediv_eq_zero_of_lt (Int.emod_nonneg _ (by omega)) (Int.emod_lt_of_pos _ h)]
    omega
end Mine
end

section -- C12
open PySem PySem.W PyProof.Rows PyProof.V PySem.Spec
set_option maxRecDepth 100000
set_option maxHeartbeats 8000000
namespace Mine
theorem off_C12 : True := by
  w_top off
  trivial
theorem slice_k {prog : Program} {w : World} {A : Around} {E : Value → Shared → Prop} {h₀ h : Heap} {L l : Addr} {m : Str → Option Value} {news : List (Addr × Obj)} {value slice : PySem.Expr} {vs : List Value} {ns ms : List Int} {c : Nat} {vl vu : Value} {lo hi : Option Int} {Q : Value → Shared → Prop} {g : Array GenState} {d : Drawn} {t : Nat} {os : OsState}
    (F : Fr h₀ L h m) (N : News h₀ L h news) (hl : h.IsList l vs.toArray) (pl : IsPart vl lo) (pu : IsPart vu hi) (hi' : IntsAre vs ns) (hm : IntsAre (slicePick vs.toArray lo hi none).toList ms) (hc : ms.length = c)
    (hq : ∀ D ws h', Fr h₀ L h' m → News h₀ L h' ((D, W.listOf (List.toArray ws) 0) :: news) → (∀ p ∈ news, p.1 < D) → IntsAre ws ms → ms.length = c → ms.length ≤ ns.length → Q (.ref D) ⟨h', g, d, t, os⟩)
    (hs : subscripted slice false (.ref l) (.ref h.objs.size) = operate [.ref h.objs.size, .ref l] (getItem (.ref l) (.ref h.objs.size))) (ht : ∀ r, letTemporaryGo value (.ref l) r = pure ()) (hz : vs.toArray.size ≤ sizeLine) :
    wpAny (model prog w) A (subscriptTail value slice (.ref l) (.ref h.objs.size)) Q E ⟨h.push { cls := .type "slice", data := .fields #[vl, vu, .none] }, g, d, t, os⟩ :=
  kmk_slice_ints (s := ⟨h, g, d, t, os⟩) F N hl pl pu hi' hm hc hq hs ht hz
noncomputable abbrev SD : List Str := ["paint", "cell", "sizes", "told"]
theorem off_SD {y : Str} (h : SD.contains y = false) : y ≠ Str.ofString "paint" ∧ y ≠ Str.ofString "cell" ∧ y ≠ Str.ofString "sizes" ∧ y ≠ Str.ofString "told" := by
  obtain ⟨h1, h⟩ := cont_cons h
  obtain ⟨h2, h⟩ := cont_cons h
  obtain ⟨h3, h⟩ := cont_cons h
  obtain ⟨h4, h⟩ := cont_cons h
  exact ⟨h1, h2, h3, h4⟩
theorem ne_lt9 {l : List (Addr × Obj)} {d : Addr} (h : ∀ p ∈ l, p.1 < d) : ∀ p ∈ l, p.1 ≠ d := fun p hp => Nat.ne_of_lt (h p hp)
theorem ints_itm {c : Int} {ws : List Value} {X : List Int} (h : X = itemsF c) (hi : IntsAre ws (List.take (2 + (c.fdiv 147).fmod 4).toNat X)) : IntsAre ws ((itemsF c).take (cntF c)) := by subst h; exact hi
theorem range_itm {c : Int} {X : List Int} {h : Heap} {r : Addr} {t u v : Tok} (e : X = itemsF c) (R : IsRange h r 1 ((((List.take (2 + (c.fdiv 147).fmod 4).toNat X).length : Nat) : Int) + 1) 1 t u v) : IsRange h r 1 (((min (cntF c) (itemsF c).length : Nat) : Int) + 1) 1 t u v := by
  subst e; rw [List.length_take] at R; exact R
theorem slice_told {prog : Program} {w : World} {A : Around} {E : Value → Shared → Prop} {h₀ h : Heap} {L l : Addr} {m : Str → Option Value} {news : List (Addr × Obj)} {value slice : PySem.Expr} {vs : List Value} {c : Int} {y : Int} {ty : Tok} {Q : Value → Shared → Prop} {g : Array GenState} {d : Drawn} {t : Nat} {os : OsState}
    (F : Fr h₀ L h m) (N : News h₀ L h news) (hm : (l, W.listOf vs.toArray 0) ∈ news) (hi : IntsAre vs ((itemsF c).take (cntF c))) (hy : 0 ≤ y)
    (hq : ∀ D ws h', Fr h₀ L h' m → News h₀ L h' ((D, W.listOf (List.toArray ws) 0) :: news) → (∀ p ∈ news, p.1 < D) → IntsAre ws (List.take y.toNat ((itemsF c).take (cntF c))) → Q (.ref D) ⟨h', g, d, t, os⟩)
    (hs : subscripted slice false (.ref l) (.ref h.objs.size) = operate [.ref h.objs.size, .ref l] (getItem (.ref l) (.ref h.objs.size))) (ht : ∀ r, letTemporaryGo value (.ref l) r = pure ()) :
    wpAny (model prog w) A (subscriptTail value slice (.ref l) (.ref h.objs.size)) Q E ⟨h.push { cls := .type "slice", data := .fields #[.none, .int y ty, .none] }, g, d, t, os⟩ := by
  have hl : h.IsList l vs.toArray := News.isList N hm
  refine kmk_slice_ints (s := ⟨h, g, d, t, os⟩) F N hl .none (.int y ty) hi (kmk_upto hi hy) rfl (fun D ws h' F' N' l1 hI _ _ => hq D ws h' F' N' l1 hI) hs ht (by
    have := items_len c
    rw [List.size_toArray, hi.length, sizeLine_eq, List.length_take]; omega)
theorem news_due {h₀ h : Heap} {L : Addr} {d2 d1 l9 e1 i1 lc p l' : Addr × Obj} {rest : List (Addr × Obj)} (N : News h₀ L h (d2 :: d1 :: l9 :: e1 :: i1 :: lc :: p :: l' :: rest)) : News h₀ L h (p :: d2 :: d1 :: l9 :: e1 :: i1 :: lc :: l' :: rest) := news_sub N fun q hq => by
  simp only [List.mem_cons] at hq ⊢
  rcases hq with h | h | h | h | h | h | h | h | h <;> simp [h]
theorem news_dueb {h₀ h : Heap} {L : Addr} {d2 d1 l9 e1 i1 lc p l' : Addr × Obj} {rest : List (Addr × Obj)} (N : News h₀ L h (p :: d2 :: d1 :: l9 :: e1 :: i1 :: lc :: l' :: rest)) : News h₀ L h ([e1, i1, lc] ++ p :: l' :: rest) := news_sub N fun q hq => by
  simp only [List.cons_append, List.nil_append, List.mem_cons] at hq ⊢
  rcases hq with h | h | h | h | h | h <;> simp [h]
theorem post_due {h₀ h : Heap} {L P : Addr} {own : List (Addr × Obj)} {oP : Obj} {d2 d1 l9 e1 i1 lc l' : Addr × Obj} {rest : List (Addr × Obj)} (_ : News h₀ L h (own ++ (P, oP) :: d2 :: d1 :: l9 :: e1 :: i1 :: lc :: l' :: rest)) (h1 : P < d2.1) (h2 : P < d1.1) (h3 : P < l9.1) (h4 : P ≠ e1.1) (h5 : P ≠ i1.1) (h6 : P < lc.1) (h7 : l'.1 < P) (h8 : AllLt P rest) :
    OffPost P (d2 :: d1 :: l9 :: e1 :: i1 :: lc :: l' :: rest) := ⟨fun q hq => by
  simp only [List.mem_cons] at hq
  rcases hq with rfl | rfl | rfl | rfl | rfl | rfl | rfl | hq
  · exact Nat.ne_of_gt h1
  · exact Nat.ne_of_gt h2
  · exact Nat.ne_of_gt h3
  · exact Ne.symm h4
  · exact Ne.symm h5
  · exact Nat.ne_of_gt h6
  · exact Nat.ne_of_lt h7
  · exact Nat.ne_of_lt (allLt_mem h8 q hq)⟩
theorem pre_it {own rest : List (Addr × Obj)} {it P : Addr} {oP : Obj} (hown : ∀ p ∈ own, p.1 = it) (h1 : ∀ p ∈ (P, oP) :: rest, p.1 ∉ [it]) : OffPre P own := ⟨fun q hq e => h1 _ (.head _) (by rw [← hown q hq, e]; exact .head _)⟩
theorem due_sum {c : Int} {j : Nat} (hj : j < min (cntF c) (itemsF c).length) : (List.take (1 + (j : Int)).toNat ((itemsF c).take (cntF c))).sum = walkT (itemsF c) (j + 1) := by
  have e : (1 + (j : Int)).toNat = j + 1 := by omega
  rw [e]
  exact due_turn rfl (by rw [take_len_min]; exact hj)
theorem len_take_small {k : Nat} {ms : List Int} (h : ms.length ≤ 1000) : (ms.take k).length < 2 ^ 62 := by
  rw [List.length_take]; omega
theorem due_con (w : World) (mean : ExcName → Option Value) (mg mb : Str → Option Value) (n : Int) (tn : Tok) (lc : Addr) (cvs : List Value) (cs : List Int) (hn : n = 5 ∨ n = 6 ∨ n = 7) (hcs : IntsAre cvs cs) (hlen : 3 ≤ cs.length) (hlen' : cs.length ≤ 100) :
    ConG w mean mg mb 84 [.int n tn, .ref lc] 3 (fun news => (lc, lstO cvs 0) ∈ news) (PaintOut (paintF n cs)) := by
  unfold ConG
  intro dp un gd cn ccs a ccd cl outer A₀ base h₀ L m news s Q E B F X N T hk' hd hu hp hret
  refine wpAny_call ?_
  k_dflt cell_enter
  have hn0 : 0 < n := by omega
  (try ((with_reducible show wpAny _ _ _ _ _ _); k_fold)); (try (with_reducible refine any_tk ?_; intro _)); (repeat' (first | (k_unfold; (try dsimp only)) | (k_end; wrow_close) | ((with_reducible show wpAny _ _ (execs (_ :: _) _) _ _ _); (with_reducible refine any_tk ?_); intro _) | ((with_reducible show wpAny _ _ (call _ _) _ _ _); (first | ((with_reducible show wpAny _ _ (call (Value.type "enumerate") [Value.ref _]) _ _ _); k_dflt (k_here; k_dflt (refine' e_make ?F ?N ?hm ?_; (case F => k_asm); (case N => k_asm); (case hm => k_mem)); intro _ _ _ _ _ _ _ _ _ _ _)) | ((with_reducible show wpAny _ _ (call (Value.builtin "len") _) _ _ _); k_dflt (k_here; (with_reducible show wpAny _ _ (call (Value.builtin "len") [Value.ref _]) _ _ _); k_dflt (refine' len_ints_fit ?k1 ?k2 ?k3 ?_; (case k1 => is_list); (case k2 => assumption); (case k3 => exact len_take_small (Nat.le_of_ble_eq_true rfl))))) | ((with_reducible show wpAny _ _ (call (Value.ref _) _) _ _ _); k_dflt ((with_reducible show wpAny _ _ (call (Value.ref 70) [Value.int _ _]) _ _ _); k_here; k_dflt (refine' Con.use ?k1 ?k2 ?k3 ?k4 ?k5 ?kK (ruler_con _ _ _ _ _ _) ?kd ?ku ?kp ?_; (case k1 => k_asm); (case k2 => k_asm); (case k3 => k_asm); (case k4 => k_asm); (case k5 => k_asm); (case kK => first | exact rfl | assumption); (case kp => trivial); (case kd => ktr_room); (case ku => ktr_units); k_whole); intro _ _ _ _ _ N9 _ hout9; obtain ⟨l9, ta9, tb9, tc9, td9, vs9, e91, e92, hr9⟩ := hout9; subst e91; subst e92; (have hr8 := ruler_two hr9); clear hr9; obtain ⟨tl9, htl9, hia9⟩ := hr8; (dsimp only [List.cons_append, List.nil_append] at N9); (try k_fold))))) | ((with_reducible show wpAny _ _ (subscriptTail (PySem.Expr.Name _ _) (PySem.Expr.Slice _ _ _ _) (Value.ref _) (Value.ref _)) _ _ _); k_dflt (k_here; (with_reducible show wpAny _ _ (subscriptTail _ (PySem.Expr.Slice _ _ none _) (Value.ref _) (Value.ref _)) _ _ _); first | (k_dflt (refine' slice_two ?F ?N ?hm ?hi ?htl ?_ ?hs ?ht; (case F => k_asm); (case N => k_asm); (case hi => assumption); (case hm => k_mem); (case htl => assumption); (case hs => with_unfolding_all rfl); (case ht => kmk_pure)); intro _ _ _ _ _ _ l1; (have l19 := l1); (try k_lt l1)) | (k_dflt (refine' slice_told ?F ?N ?hm ?hi ?hy ?_ ?hs ?ht; (case F => k_asm); (case N => k_asm); (case hi => assumption); (case hm => k_mem); (case hy => assumption); (case hs => with_unfolding_all rfl); (case ht => kmk_pure)); intro _ _ _ _ _ _ _) | (k_dflt (refine' slice_k ?F ?N ?l ?p ?q ?i ?m ?c ?_ ?s ?t ?z; (case F => k_asm); (case N => k_asm); (case l => kmk_list); (case p => kmk_part); (case q => kmk_part); (case i => l_ints); (case m => kmk_nums); (case c => kmk_len); (case s => with_unfolding_all rfl); (case t => kmk_pure); (case z => kmk_size)); intro _ _ _ _ _ l1 hI' hC' hL'; (try simp only [Int.reduceNeg, Int.neg_neg, Int.reduceToNat] at hI' hC' hL'); (try k_lt l1)))) | ((with_reducible show wpAny _ _ (inplaceOp PySem.Operator.Add (Value.ref _) (Value.ref _)) _ _ _); k_dflt (k_here; k_dflt (refine' inpl_k ?F ?N ?ho ?z1 ?z2 ?ne ?_; (case F => k_asm); (case N => assumption); (case ho => exact ne_lt9 (by assumption)); (case z1 => simp; done); (case z2 => simp; done); (case ne => simp; done)); intro _ _ _)) | ((with_reducible show wpAny _ _ (setItem (Value.ref _) (Value.int _ _) _) _ _ _); k_dflt (k_here; first | (k_dflt (refine' list_storeP ?F ?ha ?hb ?N ?h0 ?hn ?hf ?_; (case F => k_asm); (case ha => assumption); (case hb => assumption); (case N => assumption); (case h0 => exact (fmod_b (by assumption) _).1); (case hn => exact fmod_lt_len (by assumption) (by assumption)); (case hf => assumption)); intro _ _ _) | (k_dflt (refine' list_storeD ?F ?N ?ha ?hb ?h0 ?hn ?hf ?_; (case F => k_asm); (case N => assumption); (case ha => assumption); (case hb => assumption); (case h0 => exact (fmod_b (by assumption) _).1); (case hn => exact fmod_lt_len (by assumption) (by assumption)); (case hf => assumption)); intro _ _ _))) | ((with_reducible show wpAny _ _ (exec _ _) _ _ _); (first | ((with_reducible show wpAny _ _ (exec (PySem.Stmt.For (PySem.Expr.Name _ _) (PySem.Expr.Call _ _ _ _) _ _ _) _) _ _ _); k_dflt (k_here; (with_reducible show wpAny _ _ (exec (Stmt.For (Expr.Name _ _) (Expr.Call _ _ _ _) _ _ _) _) _ _ _); (rename Fr _ _ _ _ => F9); k_dflt (refine for_m F9 (by rfl) (by rfl) ?_))) | ((with_reducible show wpAny _ _ (exec (PySem.Stmt.For (PySem.Expr.Tuple _ _ _) (PySem.Expr.Call _ _ _ _) _ _ _) _) _ _ _); k_dflt (k_here; (with_reducible show wpAny _ _ (exec (Stmt.For (Expr.Tuple _ _ _) (Expr.Call _ _ _ _) _ _ _) _) _ _ _); k_dflt (refine for_g ?_))) | ((with_reducible show wpAny _ _ (exec (PySem.Stmt.For (PySem.Expr.Name _ _) (PySem.Expr.Subscript _ _ _) _ _ _) _) _ _ _); k_dflt (k_here; (with_reducible show wpAny _ _ (exec (Stmt.For (Expr.Name _ _) (Expr.Subscript _ _ _) _ _ _) _) _ _ _); (rename Fr _ _ _ _ => F9); k_dflt (refine for_m F9 (by rfl) (by rfl) ?_))))) | ((with_reducible show wpAny _ _ (pyIter (Value.ref _)) _ _ _); k_dflt (k_here; (refine' e_iter ?he ?_; (case he => assumption)))) | walk1 | (dsimp only; walk1) | (leave1; walk_say "STEP leave1"; try dsimp only) | fail "no step"))
  rename_i e1 i1 h1 oe1 oi1 en1 il1 F1 N1 hlt1 hlt2
  (rename IntsAre _ (List.take _ _) => I2)
  (rename IntsAre _ (List.flatten _) => I3)
  (rename (_ < _ ∧ AllLt _ news) => hP1)
  (rename (_ < _ ∧ _ < _ ∧ AllLt _ news) => hS1)
  k_dflt (refine' e_loop ?ahh ?axi ?axv ?ap ?aE F1 N1 (Nat.ne_of_lt hlt2) (Nat.ne_of_lt (Nat.lt_trans (hlt1 _ (.head _)) hlt2)) (Nat.ne_of_lt (hlt1 _ (.head _))) (fun q hq => ⟨Nat.ne_of_lt (Nat.lt_trans (hlt1 q (.tail _ hq)) hlt2), Nat.ne_of_lt (hlt1 q (.tail _ hq))⟩) en1 il1 (JX SD _ _ n _ (outP n (List.take (min 3 cs.length - 1) (List.drop 1 cs)) (List.replicate n.toNat [2]).flatten)) (JX.mk (fun _ _ => rfl) ?ai (I3.length.trans (by simp))) ?astep ?adone)
  (case ahh => exact rfl)
  (case axi => exact rfl)
  (case axv => exact rfl)
  (case ap => exact rfl)
  (case aE => passes_own)
  (case ai => rw [outP_zero]; exact I3)
  · rintro i v t oe oi m₁ news₁ h tk g₁ hv ⟨u, vals, rfl, rfl, hI, hl⟩ hoff F3 N3
    (try ((with_reducible show wpAny _ _ _ _ _ _); k_fold)); (try (with_reducible refine any_tk ?_; intro _))
    clear F1 N1
    obtain ⟨c, tc, rfl, hc⟩ := ints_back I2 hv
    dsimp only [List.cons_append, List.nil_append] at N3
    (try ((with_reducible show wpAny _ _ _ _ _ _); k_fold)); (try (with_reducible refine any_tk ?_; intro _)); (repeat' (first | (k_unfold; (try dsimp only)) | (k_end; wrow_close) | ((with_reducible show wpAny _ _ (execs (_ :: _) _) _ _ _); (with_reducible refine any_tk ?_); intro _) | ((with_reducible show wpAny _ _ (call _ _) _ _ _); (first | ((with_reducible show wpAny _ _ (call (Value.type "enumerate") [Value.ref _]) _ _ _); k_dflt (k_here; k_dflt (refine' e_make ?F ?N ?hm ?_; (case F => k_asm); (case N => k_asm); (case hm => k_mem)); intro _ _ _ _ _ _ _ _ _ _ _)) | ((with_reducible show wpAny _ _ (call (Value.builtin "len") _) _ _ _); k_dflt (k_here; (with_reducible show wpAny _ _ (call (Value.builtin "len") [Value.ref _]) _ _ _); k_dflt (refine' len_ints_fit ?k1 ?k2 ?k3 ?_; (case k1 => is_list); (case k2 => assumption); (case k3 => exact len_take_small (Nat.le_of_ble_eq_true rfl))))) | ((with_reducible show wpAny _ _ (call (Value.ref _) _) _ _ _); k_dflt ((with_reducible show wpAny _ _ (call (Value.ref 70) [Value.int _ _]) _ _ _); k_here; k_dflt (refine' Con.use ?k1 ?k2 ?k3 ?k4 ?k5 ?kK (ruler_con _ _ _ _ _ _) ?kd ?ku ?kp ?_; (case k1 => k_asm); (case k2 => k_asm); (case k3 => k_asm); (case k4 => k_asm); (case k5 => k_asm); (case kK => first | exact rfl | assumption); (case kp => trivial); (case kd => ktr_room); (case ku => ktr_units); k_whole); intro _ _ _ _ _ N9 _ hout9; obtain ⟨l9, ta9, tb9, tc9, td9, vs9, e91, e92, hr9⟩ := hout9; subst e91; subst e92; (have hr8 := ruler_two hr9); clear hr9; obtain ⟨tl9, htl9, hia9⟩ := hr8; (dsimp only [List.cons_append, List.nil_append] at N9); (try k_fold))))) | ((with_reducible show wpAny _ _ (subscriptTail (PySem.Expr.Name _ _) (PySem.Expr.Slice _ _ _ _) (Value.ref _) (Value.ref _)) _ _ _); k_dflt (k_here; (with_reducible show wpAny _ _ (subscriptTail _ (PySem.Expr.Slice _ _ none _) (Value.ref _) (Value.ref _)) _ _ _); first | (k_dflt (refine' slice_two ?F ?N ?hm ?hi ?htl ?_ ?hs ?ht; (case F => k_asm); (case N => k_asm); (case hi => assumption); (case hm => k_mem); (case htl => assumption); (case hs => with_unfolding_all rfl); (case ht => kmk_pure)); intro _ _ _ _ _ _ l1; (have l19 := l1); (try k_lt l1)) | (k_dflt (refine' slice_told ?F ?N ?hm ?hi ?hy ?_ ?hs ?ht; (case F => k_asm); (case N => k_asm); (case hi => assumption); (case hm => k_mem); (case hy => assumption); (case hs => with_unfolding_all rfl); (case ht => kmk_pure)); intro _ _ _ _ _ _ _) | (k_dflt (refine' slice_k ?F ?N ?l ?p ?q ?i ?m ?c ?_ ?s ?t ?z; (case F => k_asm); (case N => k_asm); (case l => kmk_list); (case p => kmk_part); (case q => kmk_part); (case i => l_ints); (case m => kmk_nums); (case c => kmk_len); (case s => with_unfolding_all rfl); (case t => kmk_pure); (case z => kmk_size)); intro _ _ _ _ _ l1 hI' hC' hL'; (try simp only [Int.reduceNeg, Int.neg_neg, Int.reduceToNat] at hI' hC' hL'); (try k_lt l1)))) | ((with_reducible show wpAny _ _ (inplaceOp PySem.Operator.Add (Value.ref _) (Value.ref _)) _ _ _); k_dflt (k_here; k_dflt (refine' inpl_k ?F ?N ?ho ?z1 ?z2 ?ne ?_; (case F => k_asm); (case N => assumption); (case ho => exact ne_lt9 (by assumption)); (case z1 => simp; done); (case z2 => simp; done); (case ne => simp; done)); intro _ _ _)) | ((with_reducible show wpAny _ _ (setItem (Value.ref _) (Value.int _ _) _) _ _ _); k_dflt (k_here; first | (k_dflt (refine' list_storeP ?F ?ha ?hb ?N ?h0 ?hn ?hf ?_; (case F => k_asm); (case ha => assumption); (case hb => assumption); (case N => assumption); (case h0 => exact (fmod_b (by assumption) _).1); (case hn => exact fmod_lt_len (by assumption) (by assumption)); (case hf => assumption)); intro _ _ _) | (k_dflt (refine' list_storeD ?F ?N ?ha ?hb ?h0 ?hn ?hf ?_; (case F => k_asm); (case N => assumption); (case ha => assumption); (case hb => assumption); (case h0 => exact (fmod_b (by assumption) _).1); (case hn => exact fmod_lt_len (by assumption) (by assumption)); (case hf => assumption)); intro _ _ _))) | ((with_reducible show wpAny _ _ (exec _ _) _ _ _); (first | ((with_reducible show wpAny _ _ (exec (PySem.Stmt.For (PySem.Expr.Name _ _) (PySem.Expr.Call _ _ _ _) _ _ _) _) _ _ _); k_dflt (k_here; (with_reducible show wpAny _ _ (exec (Stmt.For (Expr.Name _ _) (Expr.Call _ _ _ _) _ _ _) _) _ _ _); (rename Fr _ _ _ _ => F9); k_dflt (refine for_m F9 (by rfl) (by rfl) ?_))) | ((with_reducible show wpAny _ _ (exec (PySem.Stmt.For (PySem.Expr.Tuple _ _ _) (PySem.Expr.Call _ _ _ _) _ _ _) _) _ _ _); k_dflt (k_here; (with_reducible show wpAny _ _ (exec (Stmt.For (Expr.Tuple _ _ _) (Expr.Call _ _ _ _) _ _ _) _) _ _ _); k_dflt (refine for_g ?_))) | ((with_reducible show wpAny _ _ (exec (PySem.Stmt.For (PySem.Expr.Name _ _) (PySem.Expr.Subscript _ _ _) _ _ _) _) _ _ _); k_dflt (k_here; (with_reducible show wpAny _ _ (exec (Stmt.For (Expr.Name _ _) (Expr.Subscript _ _ _) _ _ _) _) _ _ _); (rename Fr _ _ _ _ => F9); k_dflt (refine for_m F9 (by rfl) (by rfl) ?_))))) | ((with_reducible show wpAny _ _ (pyIter (Value.ref _)) _ _ _); k_dflt (k_here; (refine' e_iter ?he ?_; (case he => assumption)))) | walk1 | (dsimp only; walk1) | (leave1; walk_say "STEP leave1"; try dsimp only) | fail "no step"))
    · (rename ((c.fdiv 49).fmod 3 = 1) => hk)
      (rename IsRange _ _ _ _ _ _ _ _ => R2)
      (rename Fr _ _ _ _ => F4)
      (rename News _ _ _ _ => N4)
      (rename IntsAre _ (List.take _ _) => I5)
      (rename (_ < _ ∧ _ < _ ∧ _ < _ ∧ _ < _ ∧ _ < _ ∧ _ < _ ∧ _ < _ ∧ AllLt _ news) => hD2)
      (rename (_ < _ ∧ _ < _ ∧ _ < _ ∧ _ < _ ∧ _ < _ ∧ _ < _ ∧ AllLt _ news) => hD1)
      (rename (∀ q ∈ _, ∀ p ∈ [(_, _)], _ < _) => ho9)
      have I6 := ints_itm (items_one hk).symm I5
      have R3 := range_itm (items_one hk).symm R2
      clear I5 R2
      have hcb := cnt_b c
      have hil := items_len c
      k_dflt (refine' r_loop (min (cntF c) (itemsF c).length) ?bhhA R3 (small_one (by omega) (by omega) (by first | with_reducible exact sm_b1 (by assumption) (by assumption) | with_reducible exact sm_b2 (by assumption) (by assumption) | omega) (by first | with_reducible exact sm_b1 (by assumption) (by assumption) | with_reducible exact sm_b2 (by assumption) (by assumption) | omega)) (range_size (by omega)) F4 (news_due N4) (JX ["told"] _ _ n _ (walkP n i (itemsF c) (outP n (List.take (min 3 cs.length - 1) (List.drop 1 cs)) (List.replicate n.toNat [2]).flatten i))) (JX.mk (fun _ _ => rfl) ?biA hl) ?bstepA ?bdoneA)
      (case bhhA => exact rfl)
      (case biA => rw [walkP_zero]; exact hI)
      · rintro j t2 it2 m₂ news₂ h3 tk3 own2 hj ⟨u2, vals2, rfl, rfl, hI2, hl2⟩ hnw2 hown2 hit2 F5 N5
        (try ((with_reducible show wpAny _ _ _ _ _ _); k_fold)); (try (with_reducible refine any_tk ?_; intro _))
        clear F4 N4 R3
        have hlen9 := len9 hn hl2
        have hpre9 := pre_it hown2 hnw2
        have hq9 := hoff _ (.head _)
        have hpost9 := post_due N5 hD2.2.2.2.2.2.1 hD1.2.2.2.2.1 (ho9 _ (.tail _ (.tail _ (.tail _ (.head _)))) _ (.head _)) hq9.1 hq9.2 hS1.1 hP1.1 hP1.2
        have hj0 : 0 ≤ 1 + (j : Int) := by omega
        (try ((with_reducible show wpAny _ _ _ _ _ _); k_fold)); (try (with_reducible refine any_tk ?_; intro _)); (repeat' (first | (k_unfold; (try dsimp only)) | (k_end; wrow_close) | ((with_reducible show wpAny _ _ (execs (_ :: _) _) _ _ _); (with_reducible refine any_tk ?_); intro _) | ((with_reducible show wpAny _ _ (call _ _) _ _ _); (first | ((with_reducible show wpAny _ _ (call (Value.type "enumerate") [Value.ref _]) _ _ _); k_dflt (k_here; k_dflt (refine' e_make ?F ?N ?hm ?_; (case F => k_asm); (case N => k_asm); (case hm => k_mem)); intro _ _ _ _ _ _ _ _ _ _ _)) | ((with_reducible show wpAny _ _ (call (Value.builtin "len") _) _ _ _); k_dflt (k_here; (with_reducible show wpAny _ _ (call (Value.builtin "len") [Value.ref _]) _ _ _); k_dflt (refine' len_ints_fit ?k1 ?k2 ?k3 ?_; (case k1 => is_list); (case k2 => assumption); (case k3 => exact len_take_small (Nat.le_of_ble_eq_true rfl))))) | ((with_reducible show wpAny _ _ (call (Value.ref _) _) _ _ _); k_dflt ((with_reducible show wpAny _ _ (call (Value.ref 70) [Value.int _ _]) _ _ _); k_here; k_dflt (refine' Con.use ?k1 ?k2 ?k3 ?k4 ?k5 ?kK (ruler_con _ _ _ _ _ _) ?kd ?ku ?kp ?_; (case k1 => k_asm); (case k2 => k_asm); (case k3 => k_asm); (case k4 => k_asm); (case k5 => k_asm); (case kK => first | exact rfl | assumption); (case kp => trivial); (case kd => ktr_room); (case ku => ktr_units); k_whole); intro _ _ _ _ _ N9 _ hout9; obtain ⟨l9, ta9, tb9, tc9, td9, vs9, e91, e92, hr9⟩ := hout9; subst e91; subst e92; (have hr8 := ruler_two hr9); clear hr9; obtain ⟨tl9, htl9, hia9⟩ := hr8; (dsimp only [List.cons_append, List.nil_append] at N9); (try k_fold))))) | ((with_reducible show wpAny _ _ (subscriptTail (PySem.Expr.Name _ _) (PySem.Expr.Slice _ _ _ _) (Value.ref _) (Value.ref _)) _ _ _); k_dflt (k_here; (with_reducible show wpAny _ _ (subscriptTail _ (PySem.Expr.Slice _ _ none _) (Value.ref _) (Value.ref _)) _ _ _); first | (k_dflt (refine' slice_two ?F ?N ?hm ?hi ?htl ?_ ?hs ?ht; (case F => k_asm); (case N => k_asm); (case hi => assumption); (case hm => k_mem); (case htl => assumption); (case hs => with_unfolding_all rfl); (case ht => kmk_pure)); intro _ _ _ _ _ _ l1; (have l19 := l1); (try k_lt l1)) | (k_dflt (refine' slice_told ?F ?N ?hm ?hi ?hy ?_ ?hs ?ht; (case F => k_asm); (case N => k_asm); (case hi => assumption); (case hm => k_mem); (case hy => assumption); (case hs => with_unfolding_all rfl); (case ht => kmk_pure)); intro _ _ _ _ _ _ _) | (k_dflt (refine' slice_k ?F ?N ?l ?p ?q ?i ?m ?c ?_ ?s ?t ?z; (case F => k_asm); (case N => k_asm); (case l => kmk_list); (case p => kmk_part); (case q => kmk_part); (case i => l_ints); (case m => kmk_nums); (case c => kmk_len); (case s => with_unfolding_all rfl); (case t => kmk_pure); (case z => kmk_size)); intro _ _ _ _ _ l1 hI' hC' hL'; (try simp only [Int.reduceNeg, Int.neg_neg, Int.reduceToNat] at hI' hC' hL'); (try k_lt l1)))) | ((with_reducible show wpAny _ _ (inplaceOp PySem.Operator.Add (Value.ref _) (Value.ref _)) _ _ _); k_dflt (k_here; k_dflt (refine' inpl_k ?F ?N ?ho ?z1 ?z2 ?ne ?_; (case F => k_asm); (case N => assumption); (case ho => exact ne_lt9 (by assumption)); (case z1 => simp; done); (case z2 => simp; done); (case ne => simp; done)); intro _ _ _)) | ((with_reducible show wpAny _ _ (setItem (Value.ref _) (Value.int _ _) _) _ _ _); k_dflt (k_here; first | (k_dflt (refine' list_storeP ?F ?ha ?hb ?N ?h0 ?hn ?hf ?_; (case F => k_asm); (case ha => assumption); (case hb => assumption); (case N => assumption); (case h0 => exact (fmod_b (by assumption) _).1); (case hn => exact fmod_lt_len (by assumption) (by assumption)); (case hf => assumption)); intro _ _ _) | (k_dflt (refine' list_storeD ?F ?N ?ha ?hb ?h0 ?hn ?hf ?_; (case F => k_asm); (case N => assumption); (case ha => assumption); (case hb => assumption); (case h0 => exact (fmod_b (by assumption) _).1); (case hn => exact fmod_lt_len (by assumption) (by assumption)); (case hf => assumption)); intro _ _ _))) | ((with_reducible show wpAny _ _ (exec _ _) _ _ _); (first | ((with_reducible show wpAny _ _ (exec (PySem.Stmt.For (PySem.Expr.Name _ _) (PySem.Expr.Call _ _ _ _) _ _ _) _) _ _ _); k_dflt (k_here; (with_reducible show wpAny _ _ (exec (Stmt.For (Expr.Name _ _) (Expr.Call _ _ _ _) _ _ _) _) _ _ _); (rename Fr _ _ _ _ => F9); k_dflt (refine for_m F9 (by rfl) (by rfl) ?_))) | ((with_reducible show wpAny _ _ (exec (PySem.Stmt.For (PySem.Expr.Tuple _ _ _) (PySem.Expr.Call _ _ _ _) _ _ _) _) _ _ _); k_dflt (k_here; (with_reducible show wpAny _ _ (exec (Stmt.For (Expr.Tuple _ _ _) (Expr.Call _ _ _ _) _ _ _) _) _ _ _); k_dflt (refine for_g ?_))) | ((with_reducible show wpAny _ _ (exec (PySem.Stmt.For (PySem.Expr.Name _ _) (PySem.Expr.Subscript _ _ _) _ _ _) _) _ _ _); k_dflt (k_here; (with_reducible show wpAny _ _ (exec (Stmt.For (Expr.Name _ _) (Expr.Subscript _ _ _) _ _ _) _) _ _ _); (rename Fr _ _ _ _ => F9); k_dflt (refine for_m F9 (by rfl) (by rfl) ?_))))) | ((with_reducible show wpAny _ _ (pyIter (Value.ref _)) _ _ _); k_dflt (k_here; (refine' e_iter ?he ?_; (case he => assumption)))) | walk1 | (dsimp only; walk1) | (leave1; walk_say "STEP leave1"; try dsimp only) | fail "no step"))
        (rename Fr _ _ _ _ => F7)
        (rename News _ _ _ _ => N7)
        refine jx_end F7 N7 hnw2 ?bmA ?bjA (by rw [List.length_set]; exact hl2)
        (case bmA => intro y hy; obtain ⟨y1, _⟩ := cont_cons hy; simp [y1, hy]; done)
        (case bjA => rw [walkP_suc, due_sum hj]; exact ints_set hI2 _ _ _)
      · rintro h3 tk3 m₂ news₂ F5 N5 ⟨u2, vals2, rfl, rfl, hI2, hl2⟩
        (try ((with_reducible show wpAny _ _ _ _ _ _); k_fold)); (try (with_reducible refine any_tk ?_; intro _))
        clear F4 N4 R3
        (try ((with_reducible show wpAny _ _ _ _ _ _); k_fold)); (try (with_reducible refine any_tk ?_; intro _)); (repeat' (first | (k_unfold; (try dsimp only)) | (k_end; wrow_close) | ((with_reducible show wpAny _ _ (execs (_ :: _) _) _ _ _); (with_reducible refine any_tk ?_); intro _) | ((with_reducible show wpAny _ _ (call _ _) _ _ _); (first | ((with_reducible show wpAny _ _ (call (Value.type "enumerate") [Value.ref _]) _ _ _); k_dflt (k_here; k_dflt (refine' e_make ?F ?N ?hm ?_; (case F => k_asm); (case N => k_asm); (case hm => k_mem)); intro _ _ _ _ _ _ _ _ _ _ _)) | ((with_reducible show wpAny _ _ (call (Value.builtin "len") _) _ _ _); k_dflt (k_here; (with_reducible show wpAny _ _ (call (Value.builtin "len") [Value.ref _]) _ _ _); k_dflt (refine' len_ints_fit ?k1 ?k2 ?k3 ?_; (case k1 => is_list); (case k2 => assumption); (case k3 => exact len_take_small (Nat.le_of_ble_eq_true rfl))))) | ((with_reducible show wpAny _ _ (call (Value.ref _) _) _ _ _); k_dflt ((with_reducible show wpAny _ _ (call (Value.ref 70) [Value.int _ _]) _ _ _); k_here; k_dflt (refine' Con.use ?k1 ?k2 ?k3 ?k4 ?k5 ?kK (ruler_con _ _ _ _ _ _) ?kd ?ku ?kp ?_; (case k1 => k_asm); (case k2 => k_asm); (case k3 => k_asm); (case k4 => k_asm); (case k5 => k_asm); (case kK => first | exact rfl | assumption); (case kp => trivial); (case kd => ktr_room); (case ku => ktr_units); k_whole); intro _ _ _ _ _ N9 _ hout9; obtain ⟨l9, ta9, tb9, tc9, td9, vs9, e91, e92, hr9⟩ := hout9; subst e91; subst e92; (have hr8 := ruler_two hr9); clear hr9; obtain ⟨tl9, htl9, hia9⟩ := hr8; (dsimp only [List.cons_append, List.nil_append] at N9); (try k_fold))))) | ((with_reducible show wpAny _ _ (subscriptTail (PySem.Expr.Name _ _) (PySem.Expr.Slice _ _ _ _) (Value.ref _) (Value.ref _)) _ _ _); k_dflt (k_here; (with_reducible show wpAny _ _ (subscriptTail _ (PySem.Expr.Slice _ _ none _) (Value.ref _) (Value.ref _)) _ _ _); first | (k_dflt (refine' slice_two ?F ?N ?hm ?hi ?htl ?_ ?hs ?ht; (case F => k_asm); (case N => k_asm); (case hi => assumption); (case hm => k_mem); (case htl => assumption); (case hs => with_unfolding_all rfl); (case ht => kmk_pure)); intro _ _ _ _ _ _ l1; (have l19 := l1); (try k_lt l1)) | (k_dflt (refine' slice_told ?F ?N ?hm ?hi ?hy ?_ ?hs ?ht; (case F => k_asm); (case N => k_asm); (case hi => assumption); (case hm => k_mem); (case hy => assumption); (case hs => with_unfolding_all rfl); (case ht => kmk_pure)); intro _ _ _ _ _ _ _) | (k_dflt (refine' slice_k ?F ?N ?l ?p ?q ?i ?m ?c ?_ ?s ?t ?z; (case F => k_asm); (case N => k_asm); (case l => kmk_list); (case p => kmk_part); (case q => kmk_part); (case i => l_ints); (case m => kmk_nums); (case c => kmk_len); (case s => with_unfolding_all rfl); (case t => kmk_pure); (case z => kmk_size)); intro _ _ _ _ _ l1 hI' hC' hL'; (try simp only [Int.reduceNeg, Int.neg_neg, Int.reduceToNat] at hI' hC' hL'); (try k_lt l1)))) | ((with_reducible show wpAny _ _ (inplaceOp PySem.Operator.Add (Value.ref _) (Value.ref _)) _ _ _); k_dflt (k_here; k_dflt (refine' inpl_k ?F ?N ?ho ?z1 ?z2 ?ne ?_; (case F => k_asm); (case N => assumption); (case ho => exact ne_lt9 (by assumption)); (case z1 => simp; done); (case z2 => simp; done); (case ne => simp; done)); intro _ _ _)) | ((with_reducible show wpAny _ _ (setItem (Value.ref _) (Value.int _ _) _) _ _ _); k_dflt (k_here; first | (k_dflt (refine' list_storeP ?F ?ha ?hb ?N ?h0 ?hn ?hf ?_; (case F => k_asm); (case ha => assumption); (case hb => assumption); (case N => assumption); (case h0 => exact (fmod_b (by assumption) _).1); (case hn => exact fmod_lt_len (by assumption) (by assumption)); (case hf => assumption)); intro _ _ _) | (k_dflt (refine' list_storeD ?F ?N ?ha ?hb ?h0 ?hn ?hf ?_; (case F => k_asm); (case N => assumption); (case ha => assumption); (case hb => assumption); (case h0 => exact (fmod_b (by assumption) _).1); (case hn => exact fmod_lt_len (by assumption) (by assumption)); (case hf => assumption)); intro _ _ _))) | ((with_reducible show wpAny _ _ (exec _ _) _ _ _); (first | ((with_reducible show wpAny _ _ (exec (PySem.Stmt.For (PySem.Expr.Name _ _) (PySem.Expr.Call _ _ _ _) _ _ _) _) _ _ _); k_dflt (k_here; (with_reducible show wpAny _ _ (exec (Stmt.For (Expr.Name _ _) (Expr.Call _ _ _ _) _ _ _) _) _ _ _); (rename Fr _ _ _ _ => F9); k_dflt (refine for_m F9 (by rfl) (by rfl) ?_))) | ((with_reducible show wpAny _ _ (exec (PySem.Stmt.For (PySem.Expr.Tuple _ _ _) (PySem.Expr.Call _ _ _ _) _ _ _) _) _ _ _); k_dflt (k_here; (with_reducible show wpAny _ _ (exec (Stmt.For (Expr.Tuple _ _ _) (Expr.Call _ _ _ _) _ _ _) _) _ _ _); k_dflt (refine for_g ?_))) | ((with_reducible show wpAny _ _ (exec (PySem.Stmt.For (PySem.Expr.Name _ _) (PySem.Expr.Subscript _ _ _) _ _ _) _) _ _ _); k_dflt (k_here; (with_reducible show wpAny _ _ (exec (Stmt.For (Expr.Name _ _) (Expr.Subscript _ _ _) _ _ _) _) _ _ _); (rename Fr _ _ _ _ => F9); k_dflt (refine for_m F9 (by rfl) (by rfl) ?_))))) | ((with_reducible show wpAny _ _ (pyIter (Value.ref _)) _ _ _); k_dflt (k_here; (refine' e_iter ?he ?_; (case he => assumption)))) | walk1 | (dsimp only; walk1) | (leave1; walk_say "STEP leave1"; try dsimp only) | fail "no step"))
        k_dflt (refine' EEnd.intro BareTo.refl F5 (news_dueb N5) rfl (JX.mk ?cmA ?ciA hl2))
        (case ciA => rw [outP_succ hc]; exact hI2)
        (case cmA => intro y hy; obtain ⟨y1, y2, y3, y4⟩ := off_SD hy; simp [y1, y2, y3, y4, hy]; done)
    · (rename ((c.fdiv 49).fmod 3 ≠ 1) => hk)
      (rename IsRange _ _ _ _ _ _ _ _ => R2)
      (rename Fr _ _ _ _ => F4)
      (rename News _ _ _ _ => N4)
      (rename IntsAre _ (List.take _ _) => I5)
      (rename (_ < _ ∧ _ < _ ∧ _ < _ ∧ _ < _ ∧ _ < _ ∧ _ < _ ∧ _ < _ ∧ AllLt _ news) => hD2)
      (rename (_ < _ ∧ _ < _ ∧ _ < _ ∧ _ < _ ∧ _ < _ ∧ _ < _ ∧ AllLt _ news) => hD1)
      (rename (∀ q ∈ _, ∀ p ∈ [(_, _)], _ < _) => ho9)
      have I6 := ints_itm (items_not hk).symm I5
      have R3 := range_itm (items_not hk).symm R2
      clear I5 R2
      have hcb := cnt_b c
      have hil := items_len c
      k_dflt (refine' r_loop (min (cntF c) (itemsF c).length) ?bhhB R3 (small_one (by omega) (by omega) (by first | with_reducible exact sm_b1 (by assumption) (by assumption) | with_reducible exact sm_b2 (by assumption) (by assumption) | omega) (by first | with_reducible exact sm_b1 (by assumption) (by assumption) | with_reducible exact sm_b2 (by assumption) (by assumption) | omega)) (range_size (by omega)) F4 (news_due N4) (JX ["told"] _ _ n _ (walkP n i (itemsF c) (outP n (List.take (min 3 cs.length - 1) (List.drop 1 cs)) (List.replicate n.toNat [2]).flatten i))) (JX.mk (fun _ _ => rfl) ?biB hl) ?bstepB ?bdoneB)
      (case bhhB => exact rfl)
      (case biB => rw [walkP_zero]; exact hI)
      · rintro j t2 it2 m₂ news₂ h3 tk3 own2 hj ⟨u2, vals2, rfl, rfl, hI2, hl2⟩ hnw2 hown2 hit2 F5 N5
        (try ((with_reducible show wpAny _ _ _ _ _ _); k_fold)); (try (with_reducible refine any_tk ?_; intro _))
        clear F4 N4 R3
        have hlen9 := len9 hn hl2
        have hpre9 := pre_it hown2 hnw2
        have hq9 := hoff _ (.head _)
        have hpost9 := post_due N5 hD2.2.2.2.2.2.1 hD1.2.2.2.2.1 (ho9 _ (.tail _ (.tail _ (.tail _ (.head _)))) _ (.head _)) hq9.1 hq9.2 hS1.1 hP1.1 hP1.2
        have hj0 : 0 ≤ 1 + (j : Int) := by omega
        (try ((with_reducible show wpAny _ _ _ _ _ _); k_fold)); (try (with_reducible refine any_tk ?_; intro _)); (repeat' (first | (k_unfold; (try dsimp only)) | (k_end; wrow_close) | ((with_reducible show wpAny _ _ (execs (_ :: _) _) _ _ _); (with_reducible refine any_tk ?_); intro _) | ((with_reducible show wpAny _ _ (call _ _) _ _ _); (first | ((with_reducible show wpAny _ _ (call (Value.type "enumerate") [Value.ref _]) _ _ _); k_dflt (k_here; k_dflt (refine' e_make ?F ?N ?hm ?_; (case F => k_asm); (case N => k_asm); (case hm => k_mem)); intro _ _ _ _ _ _ _ _ _ _ _)) | ((with_reducible show wpAny _ _ (call (Value.builtin "len") _) _ _ _); k_dflt (k_here; (with_reducible show wpAny _ _ (call (Value.builtin "len") [Value.ref _]) _ _ _); k_dflt (refine' len_ints_fit ?k1 ?k2 ?k3 ?_; (case k1 => is_list); (case k2 => assumption); (case k3 => exact len_take_small (Nat.le_of_ble_eq_true rfl))))) | ((with_reducible show wpAny _ _ (call (Value.ref _) _) _ _ _); k_dflt ((with_reducible show wpAny _ _ (call (Value.ref 70) [Value.int _ _]) _ _ _); k_here; k_dflt (refine' Con.use ?k1 ?k2 ?k3 ?k4 ?k5 ?kK (ruler_con _ _ _ _ _ _) ?kd ?ku ?kp ?_; (case k1 => k_asm); (case k2 => k_asm); (case k3 => k_asm); (case k4 => k_asm); (case k5 => k_asm); (case kK => first | exact rfl | assumption); (case kp => trivial); (case kd => ktr_room); (case ku => ktr_units); k_whole); intro _ _ _ _ _ N9 _ hout9; obtain ⟨l9, ta9, tb9, tc9, td9, vs9, e91, e92, hr9⟩ := hout9; subst e91; subst e92; (have hr8 := ruler_two hr9); clear hr9; obtain ⟨tl9, htl9, hia9⟩ := hr8; (dsimp only [List.cons_append, List.nil_append] at N9); (try k_fold))))) | ((with_reducible show wpAny _ _ (subscriptTail (PySem.Expr.Name _ _) (PySem.Expr.Slice _ _ _ _) (Value.ref _) (Value.ref _)) _ _ _); k_dflt (k_here; (with_reducible show wpAny _ _ (subscriptTail _ (PySem.Expr.Slice _ _ none _) (Value.ref _) (Value.ref _)) _ _ _); first | (k_dflt (refine' slice_two ?F ?N ?hm ?hi ?htl ?_ ?hs ?ht; (case F => k_asm); (case N => k_asm); (case hi => assumption); (case hm => k_mem); (case htl => assumption); (case hs => with_unfolding_all rfl); (case ht => kmk_pure)); intro _ _ _ _ _ _ l1; (have l19 := l1); (try k_lt l1)) | (k_dflt (refine' slice_told ?F ?N ?hm ?hi ?hy ?_ ?hs ?ht; (case F => k_asm); (case N => k_asm); (case hi => assumption); (case hm => k_mem); (case hy => assumption); (case hs => with_unfolding_all rfl); (case ht => kmk_pure)); intro _ _ _ _ _ _ _) | (k_dflt (refine' slice_k ?F ?N ?l ?p ?q ?i ?m ?c ?_ ?s ?t ?z; (case F => k_asm); (case N => k_asm); (case l => kmk_list); (case p => kmk_part); (case q => kmk_part); (case i => l_ints); (case m => kmk_nums); (case c => kmk_len); (case s => with_unfolding_all rfl); (case t => kmk_pure); (case z => kmk_size)); intro _ _ _ _ _ l1 hI' hC' hL'; (try simp only [Int.reduceNeg, Int.neg_neg, Int.reduceToNat] at hI' hC' hL'); (try k_lt l1)))) | ((with_reducible show wpAny _ _ (inplaceOp PySem.Operator.Add (Value.ref _) (Value.ref _)) _ _ _); k_dflt (k_here; k_dflt (refine' inpl_k ?F ?N ?ho ?z1 ?z2 ?ne ?_; (case F => k_asm); (case N => assumption); (case ho => exact ne_lt9 (by assumption)); (case z1 => simp; done); (case z2 => simp; done); (case ne => simp; done)); intro _ _ _)) | ((with_reducible show wpAny _ _ (setItem (Value.ref _) (Value.int _ _) _) _ _ _); k_dflt (k_here; first | (k_dflt (refine' list_storeP ?F ?ha ?hb ?N ?h0 ?hn ?hf ?_; (case F => k_asm); (case ha => assumption); (case hb => assumption); (case N => assumption); (case h0 => exact (fmod_b (by assumption) _).1); (case hn => exact fmod_lt_len (by assumption) (by assumption)); (case hf => assumption)); intro _ _ _) | (k_dflt (refine' list_storeD ?F ?N ?ha ?hb ?h0 ?hn ?hf ?_; (case F => k_asm); (case N => assumption); (case ha => assumption); (case hb => assumption); (case h0 => exact (fmod_b (by assumption) _).1); (case hn => exact fmod_lt_len (by assumption) (by assumption)); (case hf => assumption)); intro _ _ _))) | ((with_reducible show wpAny _ _ (exec _ _) _ _ _); (first | ((with_reducible show wpAny _ _ (exec (PySem.Stmt.For (PySem.Expr.Name _ _) (PySem.Expr.Call _ _ _ _) _ _ _) _) _ _ _); k_dflt (k_here; (with_reducible show wpAny _ _ (exec (Stmt.For (Expr.Name _ _) (Expr.Call _ _ _ _) _ _ _) _) _ _ _); (rename Fr _ _ _ _ => F9); k_dflt (refine for_m F9 (by rfl) (by rfl) ?_))) | ((with_reducible show wpAny _ _ (exec (PySem.Stmt.For (PySem.Expr.Tuple _ _ _) (PySem.Expr.Call _ _ _ _) _ _ _) _) _ _ _); k_dflt (k_here; (with_reducible show wpAny _ _ (exec (Stmt.For (Expr.Tuple _ _ _) (Expr.Call _ _ _ _) _ _ _) _) _ _ _); k_dflt (refine for_g ?_))) | ((with_reducible show wpAny _ _ (exec (PySem.Stmt.For (PySem.Expr.Name _ _) (PySem.Expr.Subscript _ _ _) _ _ _) _) _ _ _); k_dflt (k_here; (with_reducible show wpAny _ _ (exec (Stmt.For (Expr.Name _ _) (Expr.Subscript _ _ _) _ _ _) _) _ _ _); (rename Fr _ _ _ _ => F9); k_dflt (refine for_m F9 (by rfl) (by rfl) ?_))))) | ((with_reducible show wpAny _ _ (pyIter (Value.ref _)) _ _ _); k_dflt (k_here; (refine' e_iter ?he ?_; (case he => assumption)))) | walk1 | (dsimp only; walk1) | (leave1; walk_say "STEP leave1"; try dsimp only) | fail "no step"))
        (rename Fr _ _ _ _ => F7)
        (rename News _ _ _ _ => N7)
        refine jx_end F7 N7 hnw2 ?bmB ?bjB (by rw [List.length_set]; exact hl2)
        (case bmB => intro y hy; obtain ⟨y1, _⟩ := cont_cons hy; simp [y1, hy]; done)
        (case bjB => rw [walkP_suc, due_sum hj]; exact ints_set hI2 _ _ _)
      · rintro h3 tk3 m₂ news₂ F5 N5 ⟨u2, vals2, rfl, rfl, hI2, hl2⟩
        (try ((with_reducible show wpAny _ _ _ _ _ _); k_fold)); (try (with_reducible refine any_tk ?_; intro _))
        clear F4 N4 R3
        (try ((with_reducible show wpAny _ _ _ _ _ _); k_fold)); (try (with_reducible refine any_tk ?_; intro _)); (repeat' (first | (k_unfold; (try dsimp only)) | (k_end; wrow_close) | ((with_reducible show wpAny _ _ (execs (_ :: _) _) _ _ _); (with_reducible refine any_tk ?_); intro _) | ((with_reducible show wpAny _ _ (call _ _) _ _ _); (first | ((with_reducible show wpAny _ _ (call (Value.type "enumerate") [Value.ref _]) _ _ _); k_dflt (k_here; k_dflt (refine' e_make ?F ?N ?hm ?_; (case F => k_asm); (case N => k_asm); (case hm => k_mem)); intro _ _ _ _ _ _ _ _ _ _ _)) | ((with_reducible show wpAny _ _ (call (Value.builtin "len") _) _ _ _); k_dflt (k_here; (with_reducible show wpAny _ _ (call (Value.builtin "len") [Value.ref _]) _ _ _); k_dflt (refine' len_ints_fit ?k1 ?k2 ?k3 ?_; (case k1 => is_list); (case k2 => assumption); (case k3 => exact len_take_small (Nat.le_of_ble_eq_true rfl))))) | ((with_reducible show wpAny _ _ (call (Value.ref _) _) _ _ _); k_dflt ((with_reducible show wpAny _ _ (call (Value.ref 70) [Value.int _ _]) _ _ _); k_here; k_dflt (refine' Con.use ?k1 ?k2 ?k3 ?k4 ?k5 ?kK (ruler_con _ _ _ _ _ _) ?kd ?ku ?kp ?_; (case k1 => k_asm); (case k2 => k_asm); (case k3 => k_asm); (case k4 => k_asm); (case k5 => k_asm); (case kK => first | exact rfl | assumption); (case kp => trivial); (case kd => ktr_room); (case ku => ktr_units); k_whole); intro _ _ _ _ _ N9 _ hout9; obtain ⟨l9, ta9, tb9, tc9, td9, vs9, e91, e92, hr9⟩ := hout9; subst e91; subst e92; (have hr8 := ruler_two hr9); clear hr9; obtain ⟨tl9, htl9, hia9⟩ := hr8; (dsimp only [List.cons_append, List.nil_append] at N9); (try k_fold))))) | ((with_reducible show wpAny _ _ (subscriptTail (PySem.Expr.Name _ _) (PySem.Expr.Slice _ _ _ _) (Value.ref _) (Value.ref _)) _ _ _); k_dflt (k_here; (with_reducible show wpAny _ _ (subscriptTail _ (PySem.Expr.Slice _ _ none _) (Value.ref _) (Value.ref _)) _ _ _); first | (k_dflt (refine' slice_two ?F ?N ?hm ?hi ?htl ?_ ?hs ?ht; (case F => k_asm); (case N => k_asm); (case hi => assumption); (case hm => k_mem); (case htl => assumption); (case hs => with_unfolding_all rfl); (case ht => kmk_pure)); intro _ _ _ _ _ _ l1; (have l19 := l1); (try k_lt l1)) | (k_dflt (refine' slice_told ?F ?N ?hm ?hi ?hy ?_ ?hs ?ht; (case F => k_asm); (case N => k_asm); (case hi => assumption); (case hm => k_mem); (case hy => assumption); (case hs => with_unfolding_all rfl); (case ht => kmk_pure)); intro _ _ _ _ _ _ _) | (k_dflt (refine' slice_k ?F ?N ?l ?p ?q ?i ?m ?c ?_ ?s ?t ?z; (case F => k_asm); (case N => k_asm); (case l => kmk_list); (case p => kmk_part); (case q => kmk_part); (case i => l_ints); (case m => kmk_nums); (case c => kmk_len); (case s => with_unfolding_all rfl); (case t => kmk_pure); (case z => kmk_size)); intro _ _ _ _ _ l1 hI' hC' hL'; (try simp only [Int.reduceNeg, Int.neg_neg, Int.reduceToNat] at hI' hC' hL'); (try k_lt l1)))) | ((with_reducible show wpAny _ _ (inplaceOp PySem.Operator.Add (Value.ref _) (Value.ref _)) _ _ _); k_dflt (k_here; k_dflt (refine' inpl_k ?F ?N ?ho ?z1 ?z2 ?ne ?_; (case F => k_asm); (case N => assumption); (case ho => exact ne_lt9 (by assumption)); (case z1 => simp; done); (case z2 => simp; done); (case ne => simp; done)); intro _ _ _)) | ((with_reducible show wpAny _ _ (setItem (Value.ref _) (Value.int _ _) _) _ _ _); k_dflt (k_here; first | (k_dflt (refine' list_storeP ?F ?ha ?hb ?N ?h0 ?hn ?hf ?_; (case F => k_asm); (case ha => assumption); (case hb => assumption); (case N => assumption); (case h0 => exact (fmod_b (by assumption) _).1); (case hn => exact fmod_lt_len (by assumption) (by assumption)); (case hf => assumption)); intro _ _ _) | (k_dflt (refine' list_storeD ?F ?N ?ha ?hb ?h0 ?hn ?hf ?_; (case F => k_asm); (case N => assumption); (case ha => assumption); (case hb => assumption); (case h0 => exact (fmod_b (by assumption) _).1); (case hn => exact fmod_lt_len (by assumption) (by assumption)); (case hf => assumption)); intro _ _ _))) | ((with_reducible show wpAny _ _ (exec _ _) _ _ _); (first | ((with_reducible show wpAny _ _ (exec (PySem.Stmt.For (PySem.Expr.Name _ _) (PySem.Expr.Call _ _ _ _) _ _ _) _) _ _ _); k_dflt (k_here; (with_reducible show wpAny _ _ (exec (Stmt.For (Expr.Name _ _) (Expr.Call _ _ _ _) _ _ _) _) _ _ _); (rename Fr _ _ _ _ => F9); k_dflt (refine for_m F9 (by rfl) (by rfl) ?_))) | ((with_reducible show wpAny _ _ (exec (PySem.Stmt.For (PySem.Expr.Tuple _ _ _) (PySem.Expr.Call _ _ _ _) _ _ _) _) _ _ _); k_dflt (k_here; (with_reducible show wpAny _ _ (exec (Stmt.For (Expr.Tuple _ _ _) (Expr.Call _ _ _ _) _ _ _) _) _ _ _); k_dflt (refine for_g ?_))) | ((with_reducible show wpAny _ _ (exec (PySem.Stmt.For (PySem.Expr.Name _ _) (PySem.Expr.Subscript _ _ _) _ _ _) _) _ _ _); k_dflt (k_here; (with_reducible show wpAny _ _ (exec (Stmt.For (Expr.Name _ _) (Expr.Subscript _ _ _) _ _ _) _) _ _ _); (rename Fr _ _ _ _ => F9); k_dflt (refine for_m F9 (by rfl) (by rfl) ?_))))) | ((with_reducible show wpAny _ _ (pyIter (Value.ref _)) _ _ _); k_dflt (k_here; (refine' e_iter ?he ?_; (case he => assumption)))) | walk1 | (dsimp only; walk1) | (leave1; walk_say "STEP leave1"; try dsimp only) | fail "no step"))
        k_dflt (refine' EEnd.intro BareTo.refl F5 (news_dueb N5) rfl (JX.mk ?cmB ?ciB hl2))
        (case ciB => rw [outP_succ hc]; exact hI2)
        (case cmB => intro y hy; obtain ⟨y1, y2, y3, y4⟩ := off_SD hy; simp [y1, y2, y3, y4, hy]; done)
  · rintro h3 tk3 g3 m₂ news₂ hbare F5 N6 ⟨u2, vals2, rfl, rfl, hI2, hl2⟩
    (try ((with_reducible show wpAny _ _ _ _ _ _); k_fold)); (try (with_reducible refine any_tk ?_; intro _))
    clear F1 N1
    (try ((with_reducible show wpAny _ _ _ _ _ _); k_fold)); (try (with_reducible refine any_tk ?_; intro _)); (repeat' (first | (k_unfold; (try dsimp only)) | (k_end; wrow_close) | ((with_reducible show wpAny _ _ (execs (_ :: _) _) _ _ _); (with_reducible refine any_tk ?_); intro _) | ((with_reducible show wpAny _ _ (call _ _) _ _ _); (first | ((with_reducible show wpAny _ _ (call (Value.type "enumerate") [Value.ref _]) _ _ _); k_dflt (k_here; k_dflt (refine' e_make ?F ?N ?hm ?_; (case F => k_asm); (case N => k_asm); (case hm => k_mem)); intro _ _ _ _ _ _ _ _ _ _ _)) | ((with_reducible show wpAny _ _ (call (Value.builtin "len") _) _ _ _); k_dflt (k_here; (with_reducible show wpAny _ _ (call (Value.builtin "len") [Value.ref _]) _ _ _); k_dflt (refine' len_ints_fit ?k1 ?k2 ?k3 ?_; (case k1 => is_list); (case k2 => assumption); (case k3 => exact len_take_small (Nat.le_of_ble_eq_true rfl))))) | ((with_reducible show wpAny _ _ (call (Value.ref _) _) _ _ _); k_dflt ((with_reducible show wpAny _ _ (call (Value.ref 70) [Value.int _ _]) _ _ _); k_here; k_dflt (refine' Con.use ?k1 ?k2 ?k3 ?k4 ?k5 ?kK (ruler_con _ _ _ _ _ _) ?kd ?ku ?kp ?_; (case k1 => k_asm); (case k2 => k_asm); (case k3 => k_asm); (case k4 => k_asm); (case k5 => k_asm); (case kK => first | exact rfl | assumption); (case kp => trivial); (case kd => ktr_room); (case ku => ktr_units); k_whole); intro _ _ _ _ _ N9 _ hout9; obtain ⟨l9, ta9, tb9, tc9, td9, vs9, e91, e92, hr9⟩ := hout9; subst e91; subst e92; (have hr8 := ruler_two hr9); clear hr9; obtain ⟨tl9, htl9, hia9⟩ := hr8; (dsimp only [List.cons_append, List.nil_append] at N9); (try k_fold))))) | ((with_reducible show wpAny _ _ (subscriptTail (PySem.Expr.Name _ _) (PySem.Expr.Slice _ _ _ _) (Value.ref _) (Value.ref _)) _ _ _); k_dflt (k_here; (with_reducible show wpAny _ _ (subscriptTail _ (PySem.Expr.Slice _ _ none _) (Value.ref _) (Value.ref _)) _ _ _); first | (k_dflt (refine' slice_two ?F ?N ?hm ?hi ?htl ?_ ?hs ?ht; (case F => k_asm); (case N => k_asm); (case hi => assumption); (case hm => k_mem); (case htl => assumption); (case hs => with_unfolding_all rfl); (case ht => kmk_pure)); intro _ _ _ _ _ _ l1; (have l19 := l1); (try k_lt l1)) | (k_dflt (refine' slice_told ?F ?N ?hm ?hi ?hy ?_ ?hs ?ht; (case F => k_asm); (case N => k_asm); (case hi => assumption); (case hm => k_mem); (case hy => assumption); (case hs => with_unfolding_all rfl); (case ht => kmk_pure)); intro _ _ _ _ _ _ _) | (k_dflt (refine' slice_k ?F ?N ?l ?p ?q ?i ?m ?c ?_ ?s ?t ?z; (case F => k_asm); (case N => k_asm); (case l => kmk_list); (case p => kmk_part); (case q => kmk_part); (case i => l_ints); (case m => kmk_nums); (case c => kmk_len); (case s => with_unfolding_all rfl); (case t => kmk_pure); (case z => kmk_size)); intro _ _ _ _ _ l1 hI' hC' hL'; (try simp only [Int.reduceNeg, Int.neg_neg, Int.reduceToNat] at hI' hC' hL'); (try k_lt l1)))) | ((with_reducible show wpAny _ _ (inplaceOp PySem.Operator.Add (Value.ref _) (Value.ref _)) _ _ _); k_dflt (k_here; k_dflt (refine' inpl_k ?F ?N ?ho ?z1 ?z2 ?ne ?_; (case F => k_asm); (case N => assumption); (case ho => exact ne_lt9 (by assumption)); (case z1 => simp; done); (case z2 => simp; done); (case ne => simp; done)); intro _ _ _)) | ((with_reducible show wpAny _ _ (setItem (Value.ref _) (Value.int _ _) _) _ _ _); k_dflt (k_here; first | (k_dflt (refine' list_storeP ?F ?ha ?hb ?N ?h0 ?hn ?hf ?_; (case F => k_asm); (case ha => assumption); (case hb => assumption); (case N => assumption); (case h0 => exact (fmod_b (by assumption) _).1); (case hn => exact fmod_lt_len (by assumption) (by assumption)); (case hf => assumption)); intro _ _ _) | (k_dflt (refine' list_storeD ?F ?N ?ha ?hb ?h0 ?hn ?hf ?_; (case F => k_asm); (case N => assumption); (case ha => assumption); (case hb => assumption); (case h0 => exact (fmod_b (by assumption) _).1); (case hn => exact fmod_lt_len (by assumption) (by assumption)); (case hf => assumption)); intro _ _ _))) | ((with_reducible show wpAny _ _ (exec _ _) _ _ _); (first | ((with_reducible show wpAny _ _ (exec (PySem.Stmt.For (PySem.Expr.Name _ _) (PySem.Expr.Call _ _ _ _) _ _ _) _) _ _ _); k_dflt (k_here; (with_reducible show wpAny _ _ (exec (Stmt.For (Expr.Name _ _) (Expr.Call _ _ _ _) _ _ _) _) _ _ _); (rename Fr _ _ _ _ => F9); k_dflt (refine for_m F9 (by rfl) (by rfl) ?_))) | ((with_reducible show wpAny _ _ (exec (PySem.Stmt.For (PySem.Expr.Tuple _ _ _) (PySem.Expr.Call _ _ _ _) _ _ _) _) _ _ _); k_dflt (k_here; (with_reducible show wpAny _ _ (exec (Stmt.For (Expr.Tuple _ _ _) (Expr.Call _ _ _ _) _ _ _) _) _ _ _); k_dflt (refine for_g ?_))) | ((with_reducible show wpAny _ _ (exec (PySem.Stmt.For (PySem.Expr.Name _ _) (PySem.Expr.Subscript _ _ _) _ _ _) _) _ _ _); k_dflt (k_here; (with_reducible show wpAny _ _ (exec (Stmt.For (Expr.Name _ _) (Expr.Subscript _ _ _) _ _ _) _) _ _ _); (rename Fr _ _ _ _ => F9); k_dflt (refine for_m F9 (by rfl) (by rfl) ?_))))) | ((with_reducible show wpAny _ _ (pyIter (Value.ref _)) _ _ _); k_dflt (k_here; (refine' e_iter ?he ?_; (case he => assumption)))) | walk1 | (dsimp only; walk1) | (leave1; walk_say "STEP leave1"; try dsimp only) | fail "no step"))
    (rename IntsAre _ (List.drop 3 _) => I4)
    (rename (_ < _ ∧ _ < _ ∧ _ < _ ∧ AllLt _ news) => hS2)
    (rename Fr _ _ _ _ => F7)
    (rename News _ _ _ _ => N7)
    k_dflt (refine' l_loop ?dhh F7 (news_front N7) (.tail _ (.head _)) (JX ["cell"] _ _ n _ (lastP n (List.drop 3 cs) (outP n (List.take (min 3 cs.length - 1) (List.drop 1 cs)) (List.replicate n.toNat [2]).flatten (List.take (min 3 cs.length - 1) (List.drop 1 cs)).length))) (JX.mk (fun _ _ => rfl) ?di hl2) ?dstep ?ddone)
    (case dhh => exact rfl)
    (case di => rw [lastP_zero, ← I2.length]; exact hI2)
    · rintro j v it m₁ news₁ h4 tk4 own hv ⟨u1, vals3, rfl, rfl, hI3, hl3⟩ hnw hown F5 N6
      (try ((with_reducible show wpAny _ _ _ _ _ _); k_fold)); (try (with_reducible refine any_tk ?_; intro _))
      clear F7 N7
      obtain ⟨c, tc, rfl, hc⟩ := ints_back I4 hv
      have hle := last_eq c n hn0
      have hlen9 := len9 hn hl3
      have hpre9 := off_own hown (hnw _ (.head _)) hS2.2.1
      have hpost9 := off_post3N N6 hS2.2.1 hS1.1 hP1.1 hP1.2
      (try ((with_reducible show wpAny _ _ _ _ _ _); k_fold)); (try (with_reducible refine any_tk ?_; intro _)); (repeat' (first | (k_unfold; (try dsimp only)) | (k_end; wrow_close) | ((with_reducible show wpAny _ _ (execs (_ :: _) _) _ _ _); (with_reducible refine any_tk ?_); intro _) | ((with_reducible show wpAny _ _ (call _ _) _ _ _); (first | ((with_reducible show wpAny _ _ (call (Value.type "enumerate") [Value.ref _]) _ _ _); k_dflt (k_here; k_dflt (refine' e_make ?F ?N ?hm ?_; (case F => k_asm); (case N => k_asm); (case hm => k_mem)); intro _ _ _ _ _ _ _ _ _ _ _)) | ((with_reducible show wpAny _ _ (call (Value.builtin "len") _) _ _ _); k_dflt (k_here; (with_reducible show wpAny _ _ (call (Value.builtin "len") [Value.ref _]) _ _ _); k_dflt (refine' len_ints_fit ?k1 ?k2 ?k3 ?_; (case k1 => is_list); (case k2 => assumption); (case k3 => exact len_take_small (Nat.le_of_ble_eq_true rfl))))) | ((with_reducible show wpAny _ _ (call (Value.ref _) _) _ _ _); k_dflt ((with_reducible show wpAny _ _ (call (Value.ref 70) [Value.int _ _]) _ _ _); k_here; k_dflt (refine' Con.use ?k1 ?k2 ?k3 ?k4 ?k5 ?kK (ruler_con _ _ _ _ _ _) ?kd ?ku ?kp ?_; (case k1 => k_asm); (case k2 => k_asm); (case k3 => k_asm); (case k4 => k_asm); (case k5 => k_asm); (case kK => first | exact rfl | assumption); (case kp => trivial); (case kd => ktr_room); (case ku => ktr_units); k_whole); intro _ _ _ _ _ N9 _ hout9; obtain ⟨l9, ta9, tb9, tc9, td9, vs9, e91, e92, hr9⟩ := hout9; subst e91; subst e92; (have hr8 := ruler_two hr9); clear hr9; obtain ⟨tl9, htl9, hia9⟩ := hr8; (dsimp only [List.cons_append, List.nil_append] at N9); (try k_fold))))) | ((with_reducible show wpAny _ _ (subscriptTail (PySem.Expr.Name _ _) (PySem.Expr.Slice _ _ _ _) (Value.ref _) (Value.ref _)) _ _ _); k_dflt (k_here; (with_reducible show wpAny _ _ (subscriptTail _ (PySem.Expr.Slice _ _ none _) (Value.ref _) (Value.ref _)) _ _ _); first | (k_dflt (refine' slice_two ?F ?N ?hm ?hi ?htl ?_ ?hs ?ht; (case F => k_asm); (case N => k_asm); (case hi => assumption); (case hm => k_mem); (case htl => assumption); (case hs => with_unfolding_all rfl); (case ht => kmk_pure)); intro _ _ _ _ _ _ l1; (have l19 := l1); (try k_lt l1)) | (k_dflt (refine' slice_told ?F ?N ?hm ?hi ?hy ?_ ?hs ?ht; (case F => k_asm); (case N => k_asm); (case hi => assumption); (case hm => k_mem); (case hy => assumption); (case hs => with_unfolding_all rfl); (case ht => kmk_pure)); intro _ _ _ _ _ _ _) | (k_dflt (refine' slice_k ?F ?N ?l ?p ?q ?i ?m ?c ?_ ?s ?t ?z; (case F => k_asm); (case N => k_asm); (case l => kmk_list); (case p => kmk_part); (case q => kmk_part); (case i => l_ints); (case m => kmk_nums); (case c => kmk_len); (case s => with_unfolding_all rfl); (case t => kmk_pure); (case z => kmk_size)); intro _ _ _ _ _ l1 hI' hC' hL'; (try simp only [Int.reduceNeg, Int.neg_neg, Int.reduceToNat] at hI' hC' hL'); (try k_lt l1)))) | ((with_reducible show wpAny _ _ (inplaceOp PySem.Operator.Add (Value.ref _) (Value.ref _)) _ _ _); k_dflt (k_here; k_dflt (refine' inpl_k ?F ?N ?ho ?z1 ?z2 ?ne ?_; (case F => k_asm); (case N => assumption); (case ho => exact ne_lt9 (by assumption)); (case z1 => simp; done); (case z2 => simp; done); (case ne => simp; done)); intro _ _ _)) | ((with_reducible show wpAny _ _ (setItem (Value.ref _) (Value.int _ _) _) _ _ _); k_dflt (k_here; first | (k_dflt (refine' list_storeP ?F ?ha ?hb ?N ?h0 ?hn ?hf ?_; (case F => k_asm); (case ha => assumption); (case hb => assumption); (case N => assumption); (case h0 => exact (fmod_b (by assumption) _).1); (case hn => exact fmod_lt_len (by assumption) (by assumption)); (case hf => assumption)); intro _ _ _) | (k_dflt (refine' list_storeD ?F ?N ?ha ?hb ?h0 ?hn ?hf ?_; (case F => k_asm); (case N => assumption); (case ha => assumption); (case hb => assumption); (case h0 => exact (fmod_b (by assumption) _).1); (case hn => exact fmod_lt_len (by assumption) (by assumption)); (case hf => assumption)); intro _ _ _))) | ((with_reducible show wpAny _ _ (exec _ _) _ _ _); (first | ((with_reducible show wpAny _ _ (exec (PySem.Stmt.For (PySem.Expr.Name _ _) (PySem.Expr.Call _ _ _ _) _ _ _) _) _ _ _); k_dflt (k_here; (with_reducible show wpAny _ _ (exec (Stmt.For (Expr.Name _ _) (Expr.Call _ _ _ _) _ _ _) _) _ _ _); (rename Fr _ _ _ _ => F9); k_dflt (refine for_m F9 (by rfl) (by rfl) ?_))) | ((with_reducible show wpAny _ _ (exec (PySem.Stmt.For (PySem.Expr.Tuple _ _ _) (PySem.Expr.Call _ _ _ _) _ _ _) _) _ _ _); k_dflt (k_here; (with_reducible show wpAny _ _ (exec (Stmt.For (Expr.Tuple _ _ _) (Expr.Call _ _ _ _) _ _ _) _) _ _ _); k_dflt (refine for_g ?_))) | ((with_reducible show wpAny _ _ (exec (PySem.Stmt.For (PySem.Expr.Name _ _) (PySem.Expr.Subscript _ _ _) _ _ _) _) _ _ _); k_dflt (k_here; (with_reducible show wpAny _ _ (exec (Stmt.For (Expr.Name _ _) (Expr.Subscript _ _ _) _ _ _) _) _ _ _); (rename Fr _ _ _ _ => F9); k_dflt (refine for_m F9 (by rfl) (by rfl) ?_))))) | ((with_reducible show wpAny _ _ (pyIter (Value.ref _)) _ _ _); k_dflt (k_here; (refine' e_iter ?he ?_; (case he => assumption)))) | walk1 | (dsimp only; walk1) | (leave1; walk_say "STEP leave1"; try dsimp only) | fail "no step"))
      (rename Fr _ _ _ _ => F8)
      (rename News _ _ _ _ => N8)
      refine jx_end F8 N8 hnw ?dm ?dj (by rw [List.length_set]; exact hl3)
      (case dm => intro y hy; obtain ⟨y1, _⟩ := cont_cons hy; simp [y1, hy]; done)
      (case dj => rw [lastP_succ hc, hle.1, hle.2]; exact ints_set hI3 _ _ _)
    · rintro h4 tk4 m₁ news₁ F5 N6 ⟨u1, vals3, rfl, rfl, hI3, hl3⟩
      (try ((with_reducible show wpAny _ _ _ _ _ _); k_fold)); (try (with_reducible refine any_tk ?_; intro _))
      clear F7 N7
      (try ((with_reducible show wpAny _ _ _ _ _ _); k_fold)); (try (with_reducible refine any_tk ?_; intro _)); (repeat' (first | (k_unfold; (try dsimp only)) | (k_end; wrow_close) | ((with_reducible show wpAny _ _ (execs (_ :: _) _) _ _ _); (with_reducible refine any_tk ?_); intro _) | ((with_reducible show wpAny _ _ (call _ _) _ _ _); (first | ((with_reducible show wpAny _ _ (call (Value.type "enumerate") [Value.ref _]) _ _ _); k_dflt (k_here; k_dflt (refine' e_make ?F ?N ?hm ?_; (case F => k_asm); (case N => k_asm); (case hm => k_mem)); intro _ _ _ _ _ _ _ _ _ _ _)) | ((with_reducible show wpAny _ _ (call (Value.builtin "len") _) _ _ _); k_dflt (k_here; (with_reducible show wpAny _ _ (call (Value.builtin "len") [Value.ref _]) _ _ _); k_dflt (refine' len_ints_fit ?k1 ?k2 ?k3 ?_; (case k1 => is_list); (case k2 => assumption); (case k3 => exact len_take_small (Nat.le_of_ble_eq_true rfl))))) | ((with_reducible show wpAny _ _ (call (Value.ref _) _) _ _ _); k_dflt ((with_reducible show wpAny _ _ (call (Value.ref 70) [Value.int _ _]) _ _ _); k_here; k_dflt (refine' Con.use ?k1 ?k2 ?k3 ?k4 ?k5 ?kK (ruler_con _ _ _ _ _ _) ?kd ?ku ?kp ?_; (case k1 => k_asm); (case k2 => k_asm); (case k3 => k_asm); (case k4 => k_asm); (case k5 => k_asm); (case kK => first | exact rfl | assumption); (case kp => trivial); (case kd => ktr_room); (case ku => ktr_units); k_whole); intro _ _ _ _ _ N9 _ hout9; obtain ⟨l9, ta9, tb9, tc9, td9, vs9, e91, e92, hr9⟩ := hout9; subst e91; subst e92; (have hr8 := ruler_two hr9); clear hr9; obtain ⟨tl9, htl9, hia9⟩ := hr8; (dsimp only [List.cons_append, List.nil_append] at N9); (try k_fold))))) | ((with_reducible show wpAny _ _ (subscriptTail (PySem.Expr.Name _ _) (PySem.Expr.Slice _ _ _ _) (Value.ref _) (Value.ref _)) _ _ _); k_dflt (k_here; (with_reducible show wpAny _ _ (subscriptTail _ (PySem.Expr.Slice _ _ none _) (Value.ref _) (Value.ref _)) _ _ _); first | (k_dflt (refine' slice_two ?F ?N ?hm ?hi ?htl ?_ ?hs ?ht; (case F => k_asm); (case N => k_asm); (case hi => assumption); (case hm => k_mem); (case htl => assumption); (case hs => with_unfolding_all rfl); (case ht => kmk_pure)); intro _ _ _ _ _ _ l1; (have l19 := l1); (try k_lt l1)) | (k_dflt (refine' slice_told ?F ?N ?hm ?hi ?hy ?_ ?hs ?ht; (case F => k_asm); (case N => k_asm); (case hi => assumption); (case hm => k_mem); (case hy => assumption); (case hs => with_unfolding_all rfl); (case ht => kmk_pure)); intro _ _ _ _ _ _ _) | (k_dflt (refine' slice_k ?F ?N ?l ?p ?q ?i ?m ?c ?_ ?s ?t ?z; (case F => k_asm); (case N => k_asm); (case l => kmk_list); (case p => kmk_part); (case q => kmk_part); (case i => l_ints); (case m => kmk_nums); (case c => kmk_len); (case s => with_unfolding_all rfl); (case t => kmk_pure); (case z => kmk_size)); intro _ _ _ _ _ l1 hI' hC' hL'; (try simp only [Int.reduceNeg, Int.neg_neg, Int.reduceToNat] at hI' hC' hL'); (try k_lt l1)))) | ((with_reducible show wpAny _ _ (inplaceOp PySem.Operator.Add (Value.ref _) (Value.ref _)) _ _ _); k_dflt (k_here; k_dflt (refine' inpl_k ?F ?N ?ho ?z1 ?z2 ?ne ?_; (case F => k_asm); (case N => assumption); (case ho => exact ne_lt9 (by assumption)); (case z1 => simp; done); (case z2 => simp; done); (case ne => simp; done)); intro _ _ _)) | ((with_reducible show wpAny _ _ (setItem (Value.ref _) (Value.int _ _) _) _ _ _); k_dflt (k_here; first | (k_dflt (refine' list_storeP ?F ?ha ?hb ?N ?h0 ?hn ?hf ?_; (case F => k_asm); (case ha => assumption); (case hb => assumption); (case N => assumption); (case h0 => exact (fmod_b (by assumption) _).1); (case hn => exact fmod_lt_len (by assumption) (by assumption)); (case hf => assumption)); intro _ _ _) | (k_dflt (refine' list_storeD ?F ?N ?ha ?hb ?h0 ?hn ?hf ?_; (case F => k_asm); (case N => assumption); (case ha => assumption); (case hb => assumption); (case h0 => exact (fmod_b (by assumption) _).1); (case hn => exact fmod_lt_len (by assumption) (by assumption)); (case hf => assumption)); intro _ _ _))) | ((with_reducible show wpAny _ _ (exec _ _) _ _ _); (first | ((with_reducible show wpAny _ _ (exec (PySem.Stmt.For (PySem.Expr.Name _ _) (PySem.Expr.Call _ _ _ _) _ _ _) _) _ _ _); k_dflt (k_here; (with_reducible show wpAny _ _ (exec (Stmt.For (Expr.Name _ _) (Expr.Call _ _ _ _) _ _ _) _) _ _ _); (rename Fr _ _ _ _ => F9); k_dflt (refine for_m F9 (by rfl) (by rfl) ?_))) | ((with_reducible show wpAny _ _ (exec (PySem.Stmt.For (PySem.Expr.Tuple _ _ _) (PySem.Expr.Call _ _ _ _) _ _ _) _) _ _ _); k_dflt (k_here; (with_reducible show wpAny _ _ (exec (Stmt.For (Expr.Tuple _ _ _) (Expr.Call _ _ _ _) _ _ _) _) _ _ _); k_dflt (refine for_g ?_))) | ((with_reducible show wpAny _ _ (exec (PySem.Stmt.For (PySem.Expr.Name _ _) (PySem.Expr.Subscript _ _ _) _ _ _) _) _ _ _); k_dflt (k_here; (with_reducible show wpAny _ _ (exec (Stmt.For (Expr.Name _ _) (Expr.Subscript _ _ _) _ _ _) _) _ _ _); (rename Fr _ _ _ _ => F9); k_dflt (refine for_m F9 (by rfl) (by rfl) ?_))))) | ((with_reducible show wpAny _ _ (pyIter (Value.ref _)) _ _ _); k_dflt (k_here; (refine' e_iter ?he ?_; (case he => assumption)))) | walk1 | (dsimp only; walk1) | (leave1; walk_say "STEP leave1"; try dsimp only) | fail "no step"))
      (rename News h₀ _ _ _ => N10)
      exact hret _ [_] _ _ _ hbare (by assumption) (news_sub N10 fun p hp => by
        rcases List.mem_cons.mp hp with e | hp
        · rw [e]; exact .head _
        · exact .tail _ (.tail _ (.tail _ (.tail _ hp)))) (fun q hq p hp => by rw [List.mem_singleton.mp hp]; exact allLt_mem hP1.2 q hq) ⟨_, _, rfl, rfl, by rw [I4.length] at hI3; exact hI3⟩
end Mine
end

section -- P4
open PySem PySem.W PyProof.Rows
set_option maxRecDepth 100000
namespace Mine
noncomputable def ND (kn : KN) : Prop := (kn.map (·.1)).Nodup
noncomputable def lin (φ : Int → Int) (kn : KN) : Int := (kn.map fun p => φ p.1 * p.2).sum
noncomputable def addR : KN → Int → Int → KN
  | [], k, x => [(k, x)]
  | (a, b) :: r, k, x => if a = k then (a, b + x) :: r else (a, b) :: addR r k x
theorem map_off {r : KN} {k x : Int} (h : k ∉ r.map (·.1)) : r.map (fun p => if p.1 = k then (p.1, x) else p) = r := by
  induction r with
  | nil => rfl
  | cons p r ih =>
    simp only [List.map_cons, List.mem_cons, not_or] at h
    rw [List.map_cons, if_neg (fun e => h.1 e.symm), ih h.2]
theorem any_off {r : KN} {k : Int} (h : k ∉ r.map (·.1)) : r.any (fun p => decide (p.1 = k)) = false := by
  rw [List.any_eq_false]
  intro p hp e
  exact h (List.mem_map.mpr ⟨p, hp, by simpa using e⟩)
theorem putI_off {r : KN} {k x : Int} (h : k ∉ r.map (·.1)) : putI r k x = r ++ [(k, x)] := by
  unfold putI; rw [any_off h]; rfl
theorem putI_cons {c d k x : Int} {r : KN} (h : c ≠ k) : putI ((c, d) :: r) k x = (c, d) :: putI r k x := by
  unfold putI
  rw [List.any_cons, decide_eq_false h, Bool.false_or]
  split
  · rw [List.map_cons, if_neg h]
  · rfl
theorem putI_here {c d x : Int} {r : KN} (h : c ∉ r.map (·.1)) : putI ((c, d) :: r) c x = (c, x) :: r := by
  unfold putI
  rw [List.any_cons, decide_eq_true rfl, Bool.true_or, if_pos rfl, List.map_cons, if_pos rfl, map_off h]
theorem nd_cons {c d : Int} {r : KN} (h : ND ((c, d) :: r)) : c ∉ r.map (·.1) ∧ ND r := List.nodup_cons.mp h
theorem addP_R : ∀ {a : KN} (k x : Int), ND a → addP a (k, x) = addR a k x
  | [], k, x, _ => rfl
  | (c, d) :: r, k, x, h => by
    obtain ⟨h1, h2⟩ := nd_cons h
    have ih := addP_R (a := r) k x h2
    unfold addP at ih ⊢
    by_cases e : c = k
    · subst e
      simp only [getI, addR, if_true]
      exact putI_here h1
    · simp only [getI, addR, if_neg e]
      rw [putI_cons e]
      simp only at ih
      rw [ih]
theorem addR_keys : ∀ (a : KN) (k x z : Int), z ∈ (addR a k x).map (·.1) → z ∈ a.map (·.1) ∨ z = k
  | [], k, x, z, h => by simp [addR] at h; exact .inr h
  | (c, d) :: r, k, x, z, h => by
    unfold addR at h
    split at h
    · exact .inl h
    · simp only [List.map_cons, List.mem_cons] at h ⊢
      rcases h with h | h
      · exact .inl (.inl h)
      · rcases addR_keys r k x z h with h | h
        · exact .inl (.inr h)
        · exact .inr h
theorem addR_nd : ∀ {a : KN} (k x : Int), ND a → ND (addR a k x)
  | [], k, x, _ => by simp [addR, ND]
  | (c, d) :: r, k, x, h => by
    obtain ⟨h1, h2⟩ := nd_cons h
    unfold addR
    by_cases e : c = k
    · rw [if_pos e]; exact List.nodup_cons.mpr ⟨h1, h2⟩
    · rw [if_neg e]
      refine List.nodup_cons.mpr ⟨fun hm => ?_, addR_nd k x h2⟩
      rcases addR_keys r k x c hm with h | h
      · exact h1 h
      · exact e h
theorem addR_lin (φ : Int → Int) : ∀ (a : KN) (k x : Int), lin φ (addR a k x) = lin φ a + φ k * x
  | [], k, x => by simp [addR, lin]
  | (c, d) :: r, k, x => by
    have ih := addR_lin φ r k x
    unfold addR
    by_cases e : c = k
    · subst e
      rw [if_pos rfl]
      simp only [lin, List.map_cons, List.sum_cons, Int.mul_add]
      omega
    · rw [if_neg e]
      simp only [lin, List.map_cons, List.sum_cons] at ih ⊢
      omega
theorem foldl_putP : ∀ (kt acc : KN), ND (acc ++ kt) → kt.foldl putP acc = acc ++ kt
  | [], acc, _ => by simp
  | (k, x) :: r, acc, h => by
    have e : acc ++ (k, x) :: r = (acc ++ [(k, x)]) ++ r := by simp
    have hk : k ∉ acc.map (·.1) := fun hm => by
      unfold ND at h
      rw [List.map_append, List.nodup_append] at h
      exact h.2.2 k hm k (by simp) rfl
    rw [List.foldl_cons, show putP acc (k, x) = acc ++ [(k, x)] from putI_off hk, foldl_putP r _ (e ▸ h), e]
theorem addC_one {a : KN} {k x : Int} (h : ND a) : addC a [(k, x)] = addR a k x := by
  unfold addC
  rw [foldl_putP a [] h, List.nil_append]
  exact addP_R k x h
theorem lin_off {k : Int} : ∀ {a : KN}, k ∉ a.map (·.1) → lin (fun z => if z = k then 1 else 0) a = 0
  | [], _ => rfl
  | (c, d) :: r, h => by
    simp only [List.map_cons, List.mem_cons, not_or] at h
    have ih := lin_off (a := r) h.2
    simp only [lin, List.map_cons, List.sum_cons] at ih ⊢
    rw [if_neg (fun e => h.1 e.symm), ih]; omega
theorem getI_lin {k : Int} : ∀ {a : KN}, ND a → (getI a k).getD 0 = lin (fun z => if z = k then 1 else 0) a
  | [], _ => rfl
  | (c, d) :: r, h => by
    obtain ⟨h1, h2⟩ := nd_cons h
    unfold getI
    by_cases e : c = k
    · subst e
      have := lin_off h1
      simp only [lin, List.map_cons, List.sum_cons, if_true] at this ⊢
      simp [this]
    · have ih := getI_lin (k := k) h2
      rw [if_neg e, ih]
      simp only [lin, List.map_cons, List.sum_cons, if_neg e]; omega
theorem sumV_lin (a : KN) : sumV a = lin (fun _ => 1) a := by
  unfold sumV lin
  simp only [Int.one_mul]
noncomputable def phi (z : Int) : Int := if z = 4 then 3 else if z = 2 then -1 else 0
theorem lin_phi (a : KN) : 3 * lin (fun z => if z = 4 then 1 else 0) a - lin (fun z => if z = 2 then 1 else 0) a = lin phi a := by
  induction a with
  | nil => rfl
  | cons p r ih =>
    simp only [lin, List.map_cons, List.sum_cons, phi] at ih ⊢
    by_cases h4 : p.1 = 4
    · rw [if_pos h4, if_pos h4, if_neg (by omega)]; omega
    · by_cases h2 : p.1 = 2
      · rw [if_neg h4, if_neg h4, if_pos h2, if_pos h2]; omega
      · rw [if_neg h4, if_neg h4, if_neg h2, if_neg h2]; omega
noncomputable def catF {α : Type} (f : Int → List α) (a : Int) : Nat → List α
  | 0 => []
  | t + 1 => catF f a t ++ f (a + (t : Int))
theorem loop_lin {α : Type} (φ : Int → Int) (W : α → Int) (g : KN → Int → KN) (f : Int → List α) (h : ∀ acc x, ND acc → ND (g acc x) ∧ lin φ (g acc x) = lin φ acc + ((f x).map W).sum) (a : Int) (acc : KN) (hn : ND acc) :
    ∀ t, ND (loopF g a acc t) ∧ lin φ (loopF g a acc t) = lin φ acc + ((catF f a t).map W).sum
  | 0 => ⟨hn, by simp [catF, loopF]⟩
  | t + 1 => by
    obtain ⟨h1, h2⟩ := loop_lin φ W g f h a acc hn t
    obtain ⟨h3, h4⟩ := h _ (a + (t : Int)) h1
    refine ⟨h3, ?_⟩
    rw [loopF_succ, h4, h2, catF, List.map_append, List.sum_append]
    omega
noncomputable abbrev Q4 := Int × Int × Int × Int
noncomputable def quadsH (n g i j k : Int) : List Q4 := if topF n g (i + j + k) ≥ k then [(i, j, k, topF n g (i + j + k))] else []
noncomputable def quadsL (n g : Int) : List Q4 := catF (fun i => catF (fun j => catF (fun k => quadsH n g i j k) j (n - j).toNat) i (n - i).toNat) 0 n.toNat
noncomputable def valQ (φ : Int → Int) (ps : List Int) (q : Q4) : Int := φ (keyF (mixP ps 0 q.1 q.2.1 q.2.2.1 q.2.2.2) (mixP ps 1 q.1 q.2.1 q.2.2.1 q.2.2.2) (mixP ps 2 q.1 q.2.1 q.2.2.1 q.2.2.2)) * ordF (mixK q.1 q.2.1 q.2.2.1 q.2.2.2)
theorem step_lin (φ : Int → Int) (n g : Int) (ps : List Int) (i j : Int) (acc : KN) (k : Int) (h : ND acc) :
    ND (stepH n g ps i j acc k) ∧ lin φ (stepH n g ps i j acc k) = lin φ acc + ((quadsH n g i j k).map (valQ φ ps)).sum := by
  unfold quadsH
  by_cases e : topF n g (i + j + k) ≥ k
  · rw [stepH_pos e, if_pos e]
    unfold quadF
    rw [addC_one h]
    exact ⟨addR_nd _ _ h, by rw [addR_lin]; simp [valQ]⟩
  · rw [stepH_neg e, if_neg e]
    exact ⟨h, by simp⟩
theorem tally_lin (φ : Int → Int) (n g : Int) (ps : List Int) : ND (tallyF n g ps) ∧ lin φ (tallyF n g ps) = ((quadsL n g).map (valQ φ ps)).sum := by
  have h0 : ND ([] : KN) := List.nodup_nil
  have := loop_lin φ (valQ φ ps) (rowM n g ps) (fun i => catF (fun j => catF (fun k => quadsH n g i j k) j (n - j).toNat) i (n - i).toNat) (fun acc i ha =>
    loop_lin φ (valQ φ ps) (rowH n g ps i) (fun j => catF (fun k => quadsH n g i j k) j (n - j).toNat) (fun acc j ha =>
      loop_lin φ (valQ φ ps) (stepH n g ps i j) (fun k => quadsH n g i j k) (fun acc k ha => step_lin φ n g ps i j acc k ha) j acc ha (n - j).toNat) i acc ha (n - i).toNat) 0 [] h0 n.toNat
  exact ⟨this.1, by rw [show lin φ (tallyF n g ps) = _ from this.2]; simp [lin, quadsL]⟩
end Mine
end

section -- P5
open PySem PySem.W PyProof.Rows
set_option maxRecDepth 100000
namespace Mine
noncomputable def sumN (f : Nat → Int) : Nat → Int
  | 0 => 0
  | m + 1 => sumN f m + f m
theorem sumN_add (f g : Nat → Int) : ∀ n, sumN (fun a => f a + g a) n = sumN f n + sumN g n
  | 0 => rfl
  | n + 1 => by have := sumN_add f g n; simp only [sumN] at this ⊢; omega
theorem sumN_zero : ∀ n, sumN (fun _ => 0) n = 0
  | 0 => rfl
  | n + 1 => by simp [sumN, sumN_zero n]
theorem sumN_congr {f g : Nat → Int} : ∀ n, (∀ a, a < n → f a = g a) → sumN f n = sumN g n
  | 0, _ => rfl
  | n + 1, h => by simp only [sumN]; rw [sumN_congr n fun a ha => h a (by omega), h n (by omega)]
theorem sumN_pick (v : Int) (k : Int) : ∀ n : Nat, 0 ≤ k → sumN (fun a => if k = (a : Int) then v else 0) n = if k < (n : Int) then v else 0
  | 0, h => by simp [sumN]; omega
  | n + 1, h => by
    have ih := sumN_pick v k n h
    simp only [sumN] at ih ⊢
    rw [ih]
    by_cases h1 : k < (n : Int)
    · rw [if_pos h1, if_neg (by omega), if_pos (by omega)]; omega
    · by_cases h2 : k = (n : Int)
      · rw [if_neg h1, if_pos h2, if_pos (by omega)]; omega
      · rw [if_neg h1, if_neg h2, if_neg (by omega)]; omega
theorem sumN_mul (c : Int) (f : Nat → Int) : ∀ n, sumN (fun a => c * f a) n = c * sumN f n
  | 0 => by simp [sumN]
  | n + 1 => by simp only [sumN]; rw [sumN_mul c f n, Int.mul_add]
theorem sumN_mul_r (c : Int) (f : Nat → Int) : ∀ n, sumN (fun a => f a * c) n = sumN f n * c
  | 0 => by simp [sumN]
  | n + 1 => by simp only [sumN]; rw [sumN_mul_r c f n, Int.add_mul]
theorem group {α : Type} (key : α → Int) (f : α → Int) (n : Nat) : ∀ L : List α, (∀ x ∈ L, 0 ≤ key x ∧ key x < (n : Int)) → (L.map f).sum = sumN (fun a => ((L.filter fun x => key x == (a : Int)).map f).sum) n
  | [], _ => by simp [sumN_zero]
  | x :: L, h => by
    have ih := group key f n L fun y hy => h y (.tail _ hy)
    have hx := h x (.head _)
    have e : ∀ a : Nat, (((x :: L).filter fun y => key y == (a : Int)).map f).sum = (if key x = (a : Int) then f x else 0) + ((L.filter fun y => key y == (a : Int)).map f).sum := by
      intro a
      by_cases hk : key x = (a : Int)
      · rw [List.filter_cons_of_pos (by simpa using hk), if_pos hk, List.map_cons, List.sum_cons]
      · rw [List.filter_cons_of_neg (by simpa using hk), if_neg hk]; omega
    rw [List.map_cons, List.sum_cons, ih, sumN_congr n fun a _ => e a, sumN_add, sumN_pick _ _ _ hx.1, if_pos hx.2]
noncomputable abbrev T3 := Int × Int × Int
noncomputable def perms (q : Q4) : List T3 :=
  let (i, j, k, l) := q
  [(i,j,k),(i,j,l),(i,k,j),(i,k,l),(i,l,j),(i,l,k),(j,i,k),(j,i,l),(j,k,i),(j,k,l),(j,l,i),(j,l,k),(k,i,j),(k,i,l),(k,j,i),(k,j,l),(k,l,i),(k,l,j),(l,i,j),(l,i,k),(l,j,i),(l,j,k),(l,k,i),(l,k,j)]
noncomputable def entries (L : List Q4) : List (T3 × Int) := L.flatMap fun q => (perms q).map fun t => (t, ordF (mixK q.1 q.2.1 q.2.2.1 q.2.2.2))
noncomputable def inR (n : Nat) (x : Int) : Bool := decide (0 ≤ x) && decide (x < (n : Int))
noncomputable def chkE (n : Nat) (E : List (T3 × Int)) : Bool :=
  E.all (fun e => inR n e.1.1 && inR n e.1.2.1 && inR n e.1.2.2) &&
  (List.range n).all fun a => let A := E.filter fun e => e.1.1 == (a : Int)
    (List.range n).all fun b => let B := A.filter fun e => e.1.2.1 == (b : Int)
      (List.range n).all fun c => ((B.filter fun e => e.1.2.2 == (c : Int)).map fun e => e.2).sum == 24
theorem map_const {α : Type} (L : List α) (f g : α → Int) (v : Int) (h : ∀ x ∈ L, f x = g x * v) : (L.map f).sum = (L.map g).sum * v := by
  induction L with
  | nil => simp
  | cons x L ih =>
    rw [List.map_cons, List.sum_cons, List.map_cons, List.sum_cons, h x (.head _), ih fun y hy => h y (.tail _ hy), Int.add_mul]
theorem chkE_sum {n : Nat} {E : List (T3 × Int)} (hc : chkE n E = true) (H : Int → Int → Int → Int) :
    (E.map fun e => e.2 * H e.1.1 e.1.2.1 e.1.2.2).sum = sumN (fun a => sumN (fun b => sumN (fun c => 24 * H a b c) n) n) n := by
  unfold chkE at hc
  rw [Bool.and_eq_true] at hc
  obtain ⟨h1, h2⟩ := hc
  rw [List.all_eq_true] at h1
  have hr : ∀ e ∈ E, (0 ≤ e.1.1 ∧ e.1.1 < (n : Int)) ∧ (0 ≤ e.1.2.1 ∧ e.1.2.1 < (n : Int)) ∧ (0 ≤ e.1.2.2 ∧ e.1.2.2 < (n : Int)) := by
    intro e he
    have := h1 e he
    unfold inR at this
    simp only [Bool.and_eq_true, decide_eq_true_eq] at this
    exact ⟨this.1.1, this.1.2, this.2⟩
  rw [group (fun e : T3 × Int => e.1.1) _ n E fun e he => (hr e he).1]
  refine sumN_congr n fun a ha => ?_
  have h2a := List.all_eq_true.mp h2 a (List.mem_range.mpr ha)
  rw [group (fun e : T3 × Int => e.1.2.1) _ n _ fun e he => (hr e (List.mem_filter.mp he).1).2.1]
  refine sumN_congr n fun b hb => ?_
  have h2b := List.all_eq_true.mp h2a b (List.mem_range.mpr hb)
  rw [group (fun e : T3 × Int => e.1.2.2) _ n _ fun e he => (hr e (List.mem_filter.mp (List.mem_filter.mp he).1).1).2.2]
  refine sumN_congr n fun c hc => ?_
  have h2c := List.all_eq_true.mp h2b c (List.mem_range.mpr hc)
  rw [map_const _ _ (fun e => e.2) (H a b c) fun e he => ?_]
  · exact congrArg (fun z => z * H a b c) (eq_of_beq h2c)
  · obtain ⟨he, hc'⟩ := List.mem_filter.mp he
    obtain ⟨he, hb'⟩ := List.mem_filter.mp he
    obtain ⟨he, ha'⟩ := List.mem_filter.mp he
    have ea : e.1.1 = (a : Int) := by simpa using ha'
    have eb : e.1.2.1 = (b : Int) := by simpa using hb'
    have ec : e.1.2.2 = (c : Int) := by simpa using hc'
    rw [ea, eb, ec]
theorem ent_sum (L : List Q4) (H : Int → Int → Int → Int) : ((entries L).map fun e => e.2 * H e.1.1 e.1.2.1 e.1.2.2).sum =
    (L.map fun q => ordF (mixK q.1 q.2.1 q.2.2.1 q.2.2.2) * ((perms q).map fun t => H t.1 t.2.1 t.2.2).sum).sum := by
  induction L with
  | nil => rfl
  | cons q L ih =>
    show ((((perms q).map fun t => (t, ordF (mixK q.1 q.2.1 q.2.2.1 q.2.2.2))) ++ entries L).map fun e => e.2 * H e.1.1 e.1.2.1 e.1.2.2).sum = _
    rw [List.map_append, List.sum_append, ih, List.map_cons, List.sum_cons, List.map_map]
    congr 1
    rw [map_const _ _ (fun t : T3 => H t.1 t.2.1 t.2.2) (ordF (mixK q.1 q.2.1 q.2.2.1 q.2.2.2)) fun t _ => ?_]
    · exact Int.mul_comm ..
    · exact Int.mul_comm ..
noncomputable def chk (n : Nat) (g : Nat) : Bool := chkE n (entries (quadsL n g)) && (((quadsL n g).map fun q => ordF (mixK q.1 q.2.1 q.2.2.1 q.2.2.2)).sum == ((n * n * n : Nat) : Int))
theorem chk5a : chk 5 0 = true := by decide +kernel
theorem chk5b : chk 5 1 = true := by decide +kernel
theorem chk5c : chk 5 2 = true := by decide +kernel
theorem chk5d : chk 5 3 = true := by decide +kernel
theorem chk5e : chk 5 4 = true := by decide +kernel
theorem chk5 : ∀ g : Nat, g < 5 → chk 5 g = true := fun g hg => match g, hg with | 0, _ => chk5a | 1, _ => chk5b | 2, _ => chk5c | 3, _ => chk5d | 4, _ => chk5e | k + 5, h => absurd h (by omega)
theorem chk6a : chk 6 0 = true := by decide +kernel
theorem chk6b : chk 6 1 = true := by decide +kernel
theorem chk6c : chk 6 2 = true := by decide +kernel
theorem chk6d : chk 6 3 = true := by decide +kernel
theorem chk6e : chk 6 4 = true := by decide +kernel
theorem chk6f : chk 6 5 = true := by decide +kernel
theorem chk6 : ∀ g : Nat, g < 6 → chk 6 g = true := fun g hg => match g, hg with | 0, _ => chk6a | 1, _ => chk6b | 2, _ => chk6c | 3, _ => chk6d | 4, _ => chk6e | 5, _ => chk6f | k + 6, h => absurd h (by omega)
theorem chk7a : chk 7 0 = true := by decide +kernel
theorem chk7b : chk 7 1 = true := by decide +kernel
theorem chk7c : chk 7 2 = true := by decide +kernel
theorem chk7d : chk 7 3 = true := by decide +kernel
theorem chk7e : chk 7 4 = true := by decide +kernel
theorem chk7f : chk 7 5 = true := by decide +kernel
theorem chk7g : chk 7 6 = true := by decide +kernel
theorem chk7 : ∀ g : Nat, g < 7 → chk 7 g = true := fun g hg => match g, hg with | 0, _ => chk7a | 1, _ => chk7b | 2, _ => chk7c | 3, _ => chk7d | 4, _ => chk7e | 5, _ => chk7f | 6, _ => chk7g | k + 7, h => absurd h (by omega)
end Mine
end

section -- D5
open PySem PySem.W PyProof.Rows PyProof.V PySem.Spec
set_option maxRecDepth 100000
namespace Mine
theorem ConG.use {w : World} {mean : ExcName → Option Value} {mg mb : Str → Option Value} {f : Addr} {vs : List Value} {dn : Nat} {Pre : List (Addr × Obj) → Prop} {Out : List (Addr × Obj) → Value → List (Addr × Obj) → Prop}
    {dp un : Nat} {gd : Option (List Code)} {cn : Str} {cs : Scope} {a : Addr} {ccd : Value} {cl : List (Str × Addr)} {outer : List Env} {A₀ : Around} {base h₀ : Heap} {L : Addr} {m : Str → Option Value} {news : List (Addr × Obj)} {s : Shared} {Q E : Value → Shared → Prop}
    (B : Below A₀ base outer h₀) (F : Fr h₀ L s.heap m) (X : (hd.heap_39 w.params).In h₀) (N : News h₀ L s.heap news) (T : Top PV [] mean mg mb h₀) (hk : cs.kind = .function)
    (C : ConG w mean mg mb f vs dn Pre Out) (hd : dp + dn < recursionLimit) (hu : un + 8 * dn < cLine) (hp : Pre news)
    (ret : ∀ v tl h' tk' g', BareTo s.gens g' → Fr h₀ L h' m → News h₀ L h' (tl ++ news) → (∀ q ∈ news, ∀ p ∈ tl, q.1 < p.1) → Out news v tl → Q v { s with heap := h', gens := g', toks := tk' }) :
    wpAny (model PR w) (ktrTop dp un gd cn cs L a ccd cl outer) (call (.ref f) vs) Q E s :=
  C _ _ _ _ _ _ _ _ _ _ _ _ _ _ _ _ _ _ B F X N T hk hd hu hp ret
theorem three_mod (x : Int) : 5 + x.fmod 3 = 5 ∨ 5 + x.fmod 3 = 6 ∨ 5 + x.fmod 3 = 7 := by
  have := fmod_b (n := 3) (by decide) x
  omega
theorem ints_item {prog : Program} {w : World} {A : Around} {E : Value → Shared → Prop} {s : Shared} {h₀ : Heap} {L : Addr} {news : List (Addr × Obj)} {value slice : Expr} {l : Addr} {vs : List Value} {ns : List Int} {n : Nat} {k : Int} {u : Tok} {Q : Value → Shared → Prop}
    (N : News h₀ L s.heap news) (hm : (l, W.listOf vs.toArray n) ∈ news) (hi : IntsAre vs ns) (h0 : 0 ≤ k) (hk : k < ns.length) (hk2 : k < 2 ^ 63) (h : ∀ t, Q (.int (ns.getD k.toNat 0) t) s)
    (hs : ∀ (l : Addr) (k : Int) (u : Tok), subscripted slice false (.ref l) (.int k u) = operate [.ref l, .int k u] (getItem (.ref l) (.int k u)) := by intro _ _ _; with_unfolding_all rfl) :
    wpAny (model prog w) A (subscriptTail value slice (.ref l) (.int k u)) Q E s := by
  have hlt : k.toNat < ns.length := by omega
  obtain ⟨t, ht⟩ := ints_at hi (List.getElem?_eq_getElem hlt)
  refine list_item N hm h0 hk2 ht ?_ hs
  have e : ns.getD k.toNat 0 = ns[k.toNat] := by rw [List.getD_eq_getElem?_getD, List.getElem?_eq_getElem hlt]; rfl
  rw [← e]
  exact h t
theorem cells_pos {f g : Int → Int} {ns : List Int} : (0 : Int) < ((List.map f (List.take 9 ns) ++ List.drop (((List.map g (List.take 9 ns)).length : Nat) : Int).toNat [9, 233, 255]).length : Nat) := by
  simp only [List.length_append, List.length_map, List.length_take, List.length_drop, List.length_cons, List.length_nil]
  omega
theorem cells_3 {f g : Int → Int} {ns : List Int} : 3 ≤ (List.map f (List.take 9 ns) ++ List.drop (((List.map g (List.take 9 ns)).length : Nat) : Int).toNat [9, 233, 255]).length := by
  simp only [List.length_append, List.length_map, List.length_take, List.length_drop, List.length_cons, List.length_nil]
  omega
theorem cells_100 {f g : Int → Int} {ns : List Int} : (List.map f (List.take 9 ns) ++ List.drop (((List.map g (List.take 9 ns)).length : Nat) : Int).toNat [9, 233, 255]).length ≤ 100 := by
  simp only [List.length_append, List.length_map, List.length_take, List.length_drop, List.length_cons, List.length_nil]
  omega
theorem slice_from {prog : Program} {w : World} {A : Around} {E : Value → Shared → Prop} {h₀ h : Heap} {L l : Addr} {m : Str → Option Value} {news : List (Addr × Obj)} {value slice : PySem.Expr} {vs : List Value} {ns : List Int} {y : Int} {ty : Tok} {Q : Value → Shared → Prop} {g : Array GenState} {d : Drawn} {t nn : Nat} {os : OsState}
    (F : Fr h₀ L h m) (N : News h₀ L h news) (hm : (l, W.listOf vs.toArray nn) ∈ news) (hi : IntsAre vs ns) (hy : 0 ≤ y) (hz : ns.length ≤ 1000)
    (hq : ∀ D ws h', Fr h₀ L h' m → News h₀ L h' ((D, W.listOf (List.toArray ws) 0) :: news) → (∀ p ∈ news, p.1 < D) → IntsAre ws (List.drop y.toNat ns) → Q (.ref D) ⟨h', g, d, t, os⟩)
    (hs : subscripted slice false (.ref l) (.ref h.objs.size) = operate [.ref h.objs.size, .ref l] (getItem (.ref l) (.ref h.objs.size))) (ht : ∀ r, letTemporaryGo value (.ref l) r = pure ()) :
    wpAny (model prog w) A (subscriptTail value slice (.ref l) (.ref h.objs.size)) Q E ⟨h.push { cls := .type "slice", data := .fields #[.int y ty, .none, .none] }, g, d, t, os⟩ := by
  have hl : h.IsList l vs.toArray := News.isList N hm
  refine kmk_slice_ints (s := ⟨h, g, d, t, os⟩) F N hl (.int y ty) .none hi (kmk_from hi hy) rfl (fun D ws h' F' N' l1 hI _ _ => hq D ws h' F' N' l1 hI) hs ht (by
    rw [List.size_toArray, hi.length, sizeLine_eq]; omega)
theorem ne_same {prog : Program} {w : World} {A : Around} {E : Value → Shared → Prop} {s : Shared} {h₀ : Heap} {L : Addr} {news : List (Addr × Obj)} {a b : Addr} {vs us : List Value} {n1 n2 : Nat} {ns : List Int} {Q : Value → Shared → Prop}
    (N : News h₀ L s.heap news) (hm : (a, lstO vs n1) ∈ news) (hm' : (b, lstO us n2) ∈ news) (hi : IntsAre vs ns) (hi' : IntsAre us ns) (hu : A.units + 64 < cLine) (h : Q (.bool false) s) : wpAny (model prog w) A (compareOp .NotEq (.ref a) (.ref b)) Q E s :=
  ne_intsK (News.isList N hm) hi (News.isList N hm') hi' hu (by simpa using h)
theorem nine_len {f : Int → Int} {ns : List Int} : (List.map f (List.take 9 ns)).length < 2 ^ 62 := by
  rw [List.length_map, List.length_take]; omega
end Mine
end

section -- E1
open PySem PySem.W PySem.Calls PyProof.Rows PyProof.V PySem.Spec PyProof.Rows.LCg
set_option maxRecDepth 100000
set_option maxHeartbeats 8000000
namespace Mine
noncomputable def EElt (h₀ : Heap) (L : Addr) (m : Str → Option Value) (e : Addr) (oe : Obj) (it : Addr) (oi : Obj) (C : Addr) (oC : Obj) (D : Addr) (ys : List Value) (Jn : List Value → List (Addr × Obj) → Prop) (s₁ : Shared) (x : Value) (s₂ : Shared) : Prop :=
  ∃ h' tk' news'', s₂ = { s₁ with heap := h', toks := tk' } ∧ Fr h₀ L h' m ∧ News h₀ L h' ((e, oe) :: (it, oi) :: (C, oC) :: (D, LCg.lst ys) :: news'') ∧ (∀ p ∈ news'', p.1 ≠ e ∧ p.1 ≠ it ∧ p.1 ≠ C ∧ p.1 ≠ D) ∧ Jn (ys ++ [x]) news''
theorem EElt.intro {h₀ : Heap} {L : Addr} {m : Str → Option Value} {e : Addr} {oe : Obj} {it : Addr} {oi : Obj} {C : Addr} {oC : Obj} {D : Addr} {ys : List Value} {Jn : List Value → List (Addr × Obj) → Prop} {s₁ : Shared} {x : Value} {h' : Heap} {tk' : Nat} {news'' : List (Addr × Obj)}
    (F : Fr h₀ L h' m) (N : News h₀ L h' ((e, oe) :: (it, oi) :: (C, oC) :: (D, LCg.lst ys) :: news'')) (off : ∀ p ∈ news'', p.1 ≠ e ∧ p.1 ≠ it ∧ p.1 ≠ C ∧ p.1 ≠ D) (J : Jn (ys ++ [x]) news'') :
    EElt h₀ L m e oe it oi C oC D ys Jn s₁ x { s₁ with heap := h', toks := tk' } := ⟨h', tk', news'', rfl, F, N, off, J⟩
noncomputable def ESrc (prog : Program) (w : World) (A : Around) (h₀ : Heap) (L : Addr) (m : Str → Option Value) (env : Env) (elt : PySem.Expr) (a b : Str) (scope : Scope) (cl : List (Str × Addr)) (Fin : Shared → List Value → List (Addr × Obj) → Prop) (xv : Value) (s₁ : Shared) : Prop :=
  ∃ (e it l : Addr) (vs : List Value) (nn : Nat) (oe oi : Obj) (news : List (Addr × Obj)) (J : Nat → List Value → List (Addr × Obj) → Prop), xv = .ref e ∧ A.handled = none ∧ Fr h₀ L s₁.heap m ∧ News h₀ L s₁.heap ((e, oe) :: (it, oi) :: news) ∧
    IsEnum s₁.heap e it 0 .none ∧ s₁.heap.IsListIter it l 0 ∧ it ≠ e ∧ (∀ q ∈ news, q.1 ≠ e ∧ q.1 ≠ it) ∧ vs.length ≤ 1000 ∧ J 0 [] news ∧ (∀ i ys news', J i ys news' → (l, lstO vs nn) ∈ news') ∧
    (∀ i v t C oC D m₂ oe oi ys news' h tk (E' : Value → Shared → Prop), vs[i]? = some v → J i ys news' → NsObj oC m₂ → m₂ a = some (.int i t) → m₂ b = some v → Fr h₀ L h m → News h₀ L h ((e, oe) :: (it, oi) :: (C, oC) :: (D, LCg.lst ys) :: news') →
      (∀ p ∈ news', p.1 ≠ e ∧ p.1 ≠ it ∧ p.1 ≠ C ∧ p.1 ≠ D) →
      wpAny (model prog w) A (eval elt (compEnvC scope cl C env)) (EElt h₀ L m e oe it oi C oC D ys (J (i + 1)) s₁) E' { s₁ with heap := h, toks := tk }) ∧
    (∀ g ys news', J vs.length ys news' → Fin { s₁ with heap := g } ys news')
section
variable {prog : Program} {w : World} {A : Around} {E : Value → Shared → Prop} {s : Shared} {h₀ : Heap} {L : Addr} {m : Str → Option Value} {env : Env}
theorem ecomp_assign {elt iter : PySem.Expr} {a b y : Str} {pa pb tp py : Pos} {kk : Nat} {scope : Scope} {cl : List (Str × Addr)} {pos spos : Pos} {Q : Flow → Shared → Prop} (F₀ : Fr h₀ L s.heap m) (hLe : env.locals = L)
    (hsw : swapsWith (.ListComp elt [⟨.Tuple [.Name a pa, .Name b pb] kk tp, iter, [], 0⟩] scope pos) (some (.Name y py)) spos.line env = pure true)
    (hclos : closureFor scope env = pure cl) (hcell : ∀ z ∈ scope.names, z.2 ≠ .cell) (hkind : scope.kind = .function)
    (hnames : ∀ z ∈ scope.names, z.2 = .local → scope.names.lookup z.1 = some .local) (hxa : scope.names.lookup a = some .local) (hxb : scope.names.lookup b = some .local) (hab : ¬ a = b)
    (hy : env.kindOf y = some .local) (hp : (env.scope.kind == .class || (env.scope.kind == .module && env.locals != env.globals)) = false)
    (h : wpAny (model prog w) A (eval iter env) (ESrc prog w A h₀ L m env elt a b scope cl (fun s₂ => FinA h₀ L m s₂ y Q)) E s)
    (hs : ∀ x, foldedSetIterable iter env x = pure x := by intro _; rfl) :
    wpAny (model prog w) A (exec (.Assign [.Name y py] (.ListComp elt [⟨.Tuple [.Name a pa, .Name b pb] kk tp, iter, [], 0⟩] scope pos) spos) env) Q E s := by
  subst hLe
  rw [exec_Assign_Name_used _ _ _ _ hsw]
  refine wpAny_bind (wpAny_standAt (wpAny_bind ?_))
  show wpAny _ A (do let _ ← comprehension (.ListComp elt [⟨.Tuple [.Name a pa, .Name b pb] kk tp, iter, [], 0⟩] scope pos) scope env _ (newList []) false (eval iter env) (some (assign (.Name y py) env))) _ _ s
  refine wpAny_bind (wpAny_mono (wpAny_comprehension_free (use := some (assign (.Name y py) env)) (Q := fun _ s' => Q .next s') rfl hs hclos hkind hnames
    (wpAny_mono h (fun xv s₁ h₁ => ?_) fun _ _ e => e)) (fun _ s' hq => wpAny_pure (wpAny_pure hq)) fun _ _ e => e)
  (try (show wpAny _ _ _ _ _ _; k_fold))
  obtain ⟨e, it, l, vs, nn, oe, oi, news, J, rfl, hh, F, N, he, hit, hei, hne, hsz, hJ0, hJl, step, fin⟩ := h₁
  refine wpAny_pyIter_enum he ?_
  have z1 := N (e, oe) (.head _)
  have z2 := N (it, oi) (.tail _ (.head _))
  refine wpAny_newObj_type (wpAny_newFunctionEnv hcell (by intro y hy; simp at hy) (fun h₁ hns₁ hsb₁ => ?_) hkind)
  dsimp only at hns₁ hsb₁ ⊢
  generalize hH2 : s₁.heap.push { cls := .type "list", dict := none, data := .seq ([] : List Value).toArray } = H2 at hns₁ hsb₁ ⊢
  have hC : H2.objs.size = s₁.heap.objs.size + 1 := by rw [← hH2, Heap.size_push]
  have hDC : s₁.heap.objs.size ≠ H2.objs.size := by rw [hC]; exact Nat.ne_of_lt (Nat.lt_succ_self _)
  have below : ∀ b, b < s₁.heap.objs.size → b ≠ H2.objs.size ∧ b ≠ s₁.heap.objs.size := fun b hb => ⟨by rw [hC]; exact Nat.ne_of_lt (Nat.lt_succ_of_lt hb), Nat.ne_of_lt hb⟩
  have old : ∀ b o, s₁.heap.get? b = some o → h₁.get? b = some o := fun b o e => hsb₁.extBut b o (below b (Heap.lt_size e)).1 (Heap.get?_push_of_some _ (hH2 ▸ Heap.get?_push_of_some _ e))
  have hacc : h₁.get? s₁.heap.objs.size = some (LCg.lst []) := hsb₁.extBut _ _ hDC (Heap.get?_push_of_some _ (hH2 ▸ Heap.get?_push_size _ rfl))
  have fresh : ∀ a, s₁.heap.objs.size ≤ a → s₁.heap.get? a = none := fun a ha => by
    cases e : s₁.heap.get? a with
    | none => rfl
    | some o' => exact absurd (Heap.lt_size e) (Nat.not_lt.mpr ha)
  have fresh₀ : ∀ a, s₁.heap.objs.size ≤ a → h₀.get? a = none := fun a ha => by
    cases e : h₀.get? a with
    | none => rfl
    | some o' => have := F.keep a o' e; rw [fresh a ha] at this; cases this
  have hD₀ : h₀.get? s₁.heap.objs.size = none := fresh₀ _ (Nat.le_refl _)
  have hC₀ : h₀.get? H2.objs.size = none := fresh₀ _ (by rw [hC]; exact Nat.le_succ _)
  have hLlt : env.locals < s₁.heap.objs.size := F.ns.lt
  have hDL : s₁.heap.objs.size ≠ env.locals := Ne.symm (below _ hLlt).2
  have hCL : H2.objs.size ≠ env.locals := Ne.symm (below _ hLlt).1
  have elt_lt := below _ (Heap.lt_size z1.1)
  have itlt := below _ (Heap.lt_size z2.1)
  have off₀ : ∀ p ∈ news, p.1 ≠ e ∧ p.1 ≠ it ∧ p.1 ≠ H2.objs.size ∧ p.1 ≠ s₁.heap.objs.size := fun p hp =>
    have q := below _ (Heap.lt_size (N p (.tail _ (.tail _ hp))).1)
    ⟨(hne p hp).1, (hne p hp).2, q.1, q.2⟩
  have loop : ∀ s₃ : Shared, s₃ = { s₁ with heap := h₁, toks := s₁.toks + ([] : List (Str × Value)).length } →
      codeAny (model prog w) A (.compLoop (.ListComp elt [⟨.Tuple [.Name a pa, .Name b pb] kk tp, iter, [], 0⟩] scope pos) 0 (.ref e) (.ref s₁.heap.objs.size) (compEnvC scope cl H2.objs.size env))
        (compPost (model prog w) A E (some (assign (.Name y py) env)) (fun _ s' => Q .next s') (.ref s₁.heap.objs.size) H2.objs.size) s₃ := by
    rintro s₃ rfl
    (try ((with_reducible show wpAny _ _ _ _ _ _); k_fold)); (try (with_reducible refine any_tk ?_; intro _))
    refine kcp_loop
      (fun k s' => ∃ h' tk i ys m' news' oe oi old, s' = { s₁ with heap := h', toks := tk } ∧ i ≤ vs.length ∧ k = vs.length + 1 - i ∧ ys.length = i ∧ IsEnum h' e it ((i : Nat) : Int) old ∧ h'.IsListIter it l i ∧ Fr h₀ env.locals h' m ∧ h'.Ns H2.objs.size m' ∧
        News h₀ env.locals h' ((e, oe) :: (it, oi) :: (s₁.heap.objs.size, LCg.lst ys) :: news') ∧ (∀ p ∈ news', p.1 ≠ e ∧ p.1 ≠ it ∧ p.1 ≠ H2.objs.size ∧ p.1 ≠ s₁.heap.objs.size) ∧ J i ys news') ?_ (vs.length + 1)
      ⟨h₁, _, 0, [], _, news, oe, oi, .none, rfl, Nat.zero_le _, rfl, rfl, old _ _ he, (by obtain ⟨o, q, r⟩ := hit; exact ⟨o, old _ _ q, r⟩), F.keeps old, hns₁, fun p hp => ?_, off₀, hJ0⟩
    · intro k s' hI
      (show wpAny _ _ _ _ _ _; k_fold)
      obtain ⟨H, tk, i, ys, m', news', oe', oi', ol, hs', hi, hk', hyl, he', hit', F', hn', N', off', hJ⟩ := hI
      subst hs' hk'
      have hl' : H.IsList l vs.toArray := News.isList (news := news') (n := nn) (fun p hp => N' p (.tail _ (.tail _ (.tail _ hp)))) (hJl _ _ _ hJ)
      have hle := hJl _ _ _ hJ
      have hn1 := N' (e, oe') (.head _)
      have hn2 := N' (it, oi') (.tail _ (.head _))
      cases hv : vs[i]? with
      | none =>
        have hin : i = vs.length := Nat.le_antisymm hi (by simpa using hv)
        subst hin
        refine wpAny_pyNext_enum_end hh he' hit' hl' (by simpa using hv) fun h₂ he₂ => ?_
        (try (show wpAny _ _ _ _ _ _; k_fold))
        have hk2 : ∀ b o, b ≠ it → H.get? b = some o → h₂.get? b = some o := fun b o hb q => he₂ b o hb q
        have F₂ : Fr h₀ env.locals h₂ m := ⟨F'.ns.at' fun o q => hk2 _ o (Ne.symm hn2.2.1) q, fun b o q => hk2 b o (fun e2 => by rw [e2, hn2.2.2] at q; cases q) (F'.keep b o q), F'.above⟩
        have N₂ : News h₀ env.locals h₂ ((s₁.heap.objs.size, LCg.lst ys) :: news') := fun p hp => by
          have z := N' p (.tail _ (.tail _ hp))
          refine ⟨hk2 _ _ ?_ z.1, z.2⟩
          rcases List.mem_cons.mp hp with rfl | hp
          · exact Ne.symm itlt.2
          · exact (off' p hp).2.1
        have hnC : h₂.Ns H2.objs.size m' := hn'.at' fun o q => hk2 _ o (Ne.symm itlt.1) q
        show wpAny _ A (assign (.Name y py) env (.ref s₁.heap.objs.size)) _ _ _
        refine wpAny_assign_Name (wpAny_storeName_local hy F₂.ns (fun h₃ hn₃ hs₃ => ?_) hp)
        have hL₀ : h₀.get? env.locals = none := Heap.get?_none_of_le F₂.above
        have F₃ : Fr h₀ env.locals h₃ (fun z => if z = y then some (.ref s₁.heap.objs.size) else m z) := ⟨hn₃, fun b o q => hs₃.extBut b o (fun q2 => by rw [q2, hL₀] at q; cases q) (F₂.keep b o q), F₂.above⟩
        refine ⟨m', hnC.sameBut hs₃ hCL, fun h'' hs'' => fin s₁.heap ys news' hJ _ h'' _ (F₃.change hs'' hCL hC₀) (fun p hp => ?_) (Off3.one (I := it) (C := H2.objs.size) (Off3.of fun p hp => ⟨(off' p hp).2.1, (off' p hp).2.2.1, (off' p hp).2.2.2⟩))⟩
        have z : h₃.get? p.1 = some p.2 := hs₃.extBut _ _ (N₂ p hp).2.1 (N₂ p hp).1
        refine ⟨hs''.extBut _ _ ?_ z, (N₂ p hp).2⟩
        rcases List.mem_cons.mp hp with rfl | hp
        · exact hDC
        · exact (off' p hp).2.2.1
      | some v =>
        have hlt : i < vs.length := (List.getElem?_eq_some_iff.mp hv).1
        refine wpAny_pyNext_enum_item he' hit' hl' (x := v) (by simpa using hv) (Ne.symm hei) fun h₂ heo hit₂ ht₂ hz₂ hk₂ => ?_
        (try (show wpAny _ _ _ _ _ _; k_fold))
        refine wpAny_letOwnedTupleGo_enum heo fun h₃ he₃ hs₃ => ?_
        (try (show wpAny _ _ _ _ _ _; k_fold))
        replace hs₃ : Heap.SameBut e h₂ h₃ := hs₃
        have hTe : H.objs.size ≠ e := Nat.ne_of_gt (Heap.lt_size hn1.1)
        have ht₃ : h₃.IsTuple H.objs.size #[.int i tk, v] := ⟨_, (hs₃.2 _ hTe).trans ht₂, rfl, _, rfl⟩
        have up₃ : ∀ c o, c ≠ e → c ≠ it → H.get? c = some o → h₃.get? c = some o := fun c o h1 h2 q => hs₃.extBut c o h1 (hk₂ c o h1 h2 q)
        refine kcp_assign (env := compEnvC scope cl H2.objs.size env) hh ht₃ (lookup_relabel_local hxa) (lookup_relabel_local hxb) (by simp [compEnvC, relabel, hkind]) (hn'.at' fun o q => up₃ _ o (Ne.symm elt_lt.1) (Ne.symm itlt.1) q) fun h₄ tk₄ hn₄ hs₄ => ?_
        (try (show wpAny _ _ _ _ _ _; k_fold))
        replace hs₄ : ∀ c o, c ≠ H2.objs.size → h₃.get? c = some o → h₄.get? c = some o := hs₄
        obtain ⟨oi₃, hoi₃, hii₃⟩ := (hit₂.extBut hs₃.extBut hei)
        obtain ⟨oC, heC, hoC⟩ := ns_obj hn₄
        have up : ∀ c o, c ≠ e → c ≠ it → c ≠ H2.objs.size → H.get? c = some o → h₄.get? c = some o := fun c o h1 h2 h3 q => hs₄ c o h3 (up₃ c o h1 h2 q)
        have F₄ : Fr h₀ env.locals h₄ m := ⟨F'.ns.at' fun o q => up _ o (Ne.symm hn1.2.1) (Ne.symm hn2.2.1) (Ne.symm hCL) q, fun c o q => up c o (fun q2 => by rw [q2, hn1.2.2] at q; cases q) (fun q2 => by rw [q2, hn2.2.2] at q; cases q) (fun q2 => by rw [q2, hC₀] at q; cases q) (F'.keep c o q), F'.above⟩
        have N₄ : News h₀ env.locals h₄ ((e, ({ cls := Value.type "enumerate", data := Data.fields #[Value.none, Value.bool false, Value.ref it, rawInt ((i : Int) + 1), Value.none, v] } : Obj)) :: (it, oi₃) :: (H2.objs.size, oC) :: (s₁.heap.objs.size, LCg.lst ys) :: news') := fun q hq => by
          rcases List.mem_cons.mp hq with rfl | hq
          · exact ⟨hs₄ _ _ elt_lt.1 he₃, hn1.2⟩
          · rcases List.mem_cons.mp hq with rfl | hq
            · exact ⟨hs₄ _ _ itlt.1 hoi₃, hn2.2⟩
            · rcases List.mem_cons.mp hq with rfl | hq
              · exact ⟨heC, hCL, hC₀⟩
              · rcases List.mem_cons.mp hq with rfl | hq
                · have z := N' (s₁.heap.objs.size, LCg.lst ys) (.tail _ (.tail _ (.head _)))
                  exact ⟨up _ _ (Ne.symm elt_lt.2) (Ne.symm itlt.2) hDC z.1, z.2⟩
                · have z := N' q (.tail _ (.tail _ (.tail _ hq)))
                  exact ⟨up _ _ (off' q hq).1 (off' q hq).2.1 (off' q hq).2.2.1 z.1, z.2⟩
        refine wpAny_mono (step i v tk H2.objs.size oC s₁.heap.objs.size _ _ oi₃ ys news' h₄ _ _ hv hJ hoC (by simp [hab]) (by simp) F₄ N₄ off') (fun x s₅ h₅ => ?_) fun _ _ e => e
        obtain ⟨h₅, tk₅, news₅, rfl, F₅, N₅, off₅, hJ₅⟩ := h₅
        have zD := (N₅ (s₁.heap.objs.size, LCg.lst ys) (.tail _ (.tail _ (.tail _ (.head _))))).1
        have zC := (N₅ (H2.objs.size, oC) (.tail _ (.tail _ (.head _)))).1
        have zi := (N₅ (it, oi₃) (.tail _ (.head _)))
        have ze := (N₅ (e, ({ cls := Value.type "enumerate", data := Data.fields #[Value.none, Value.bool false, Value.ref it, rawInt ((i : Int) + 1), Value.none, v] } : Obj)) (.head _))
        refine append_at (hsz := by show ys.toArray.size ≤ sizeLine; rw [List.size_toArray, hyl, sizeLine_eq]; omega) zD fun h₆ hs₆ hD₆ => ?_
        have e1 : ((i + 1 : Nat) : Int) = (i : Int) + 1 := by push_cast; rfl
        refine ⟨vs.length + 1 - (i + 1), by omega, h₆, tk₅, i + 1, ys ++ [x], _, news₅, ({ cls := Value.type "enumerate", data := Data.fields #[Value.none, Value.bool false, Value.ref it, rawInt ((i : Int) + 1), Value.none, v] } : Obj), oi₃, v, rfl, hlt, rfl, by rw [List.length_append, List.length_singleton, hyl], (by rw [e1]; exact hs₆.extBut _ _ elt_lt.2 ze.1), ⟨oi₃, hs₆.extBut _ _ itlt.2 zi.1, hii₃⟩, F₅.change hs₆ hDL hD₀,
          (hoC.ns zC).sameBut hs₆ (Ne.symm hDC), fun q hq => ?_, off₅, hJ₅⟩
        rcases List.mem_cons.mp hq with rfl | hq
        · exact ⟨hs₆.extBut _ _ elt_lt.2 ze.1, ze.2⟩
        · rcases List.mem_cons.mp hq with rfl | hq
          · exact ⟨hs₆.extBut _ _ itlt.2 zi.1, zi.2⟩
          · rcases List.mem_cons.mp hq with rfl | hq
            · exact ⟨hD₆.trans (congrArg some (lst_snoc ys x)), hDL, hD₀⟩
            · have z := N₅ q (.tail _ (.tail _ (.tail _ (.tail _ hq))))
              exact ⟨hs₆.extBut _ _ (off₅ q hq).2.2.2 z.1, z.2⟩
    · rcases List.mem_cons.mp hp with rfl | hp
      · exact ⟨old _ _ z1.1, z1.2⟩
      · rcases List.mem_cons.mp hp with rfl | hp
        · exact ⟨old _ _ z2.1, z2.2⟩
        · rcases List.mem_cons.mp hp with rfl | hp
          · exact ⟨hacc, hDL, hD₀⟩
          · exact ⟨old _ _ (N p (.tail _ (.tail _ hp))).1, (N p (.tail _ (.tail _ hp))).2⟩
  exact codeAny_compStart_list (loop _ rfl) (wpAny_pyIter_enum (old _ _ he) (loop _ rfl))
end
end Mine
end

section -- P6
open PySem PySem.W PyProof.Rows
set_option maxRecDepth 100000
namespace Mine
noncomputable def In3 (ps : List Int) : Prop := ∀ x ∈ ps, x = 0 ∨ x = 1 ∨ x = 2
theorem In3.set {ps : List Int} (h : In3 ps) {k : Nat} {p : Int} (hp : p = 0 ∨ p = 1 ∨ p = 2) : In3 (ps.set k p) := fun x hx => by
  rcases List.mem_or_eq_of_mem_set hx with h1 | h1
  · exact h x h1
  · rw [h1]; exact hp
theorem walkP_in3 {n p : Int} {its P : List Int} (h : In3 P) (hp : p = 0 ∨ p = 1 ∨ p = 2) : ∀ i, In3 (walkP n p its P i)
  | 0 => by rw [walkP_zero]; exact h
  | i + 1 => by rw [walkP_suc]; exact (walkP_in3 h hp i).set hp
theorem outP_in3 {n : Int} {cs P : List Int} (h : In3 P) : ∀ i, i ≤ 2 → In3 (outP n cs P i)
  | 0, _ => by rw [outP_zero]; exact h
  | i + 1, hi => by
    rw [outP_suc]
    exact walkP_in3 (outP_in3 h i (by omega)) (by omega) _
theorem div3 {n c : Int} (hn : 0 < n) : (c.fmod (3 * n)).fdiv n = 0 ∨ (c.fmod (3 * n)).fdiv n = 1 ∨ (c.fmod (3 * n)).fdiv n = 2 := by
  have hb := fmod_b (n := 3 * n) (by omega) c
  rw [Int.fdiv_eq_ediv_of_nonneg _ (by omega)]
  generalize c.fmod (3 * n) = x at hb
  have h1 : 0 ≤ x / n := Int.ediv_nonneg hb.1 (by omega)
  have h2 : x / n < 3 := Int.ediv_lt_of_lt_mul hn hb.2
  omega
theorem lastP_in3 {n : Int} {cs P : List Int} (hn : 0 < n) (h : In3 P) : ∀ i, In3 (lastP n cs P i)
  | 0 => by rw [lastP_zero]; exact h
  | i + 1 => by rw [lastP_suc]; exact (lastP_in3 hn h i).set (div3 hn)
theorem two_in3 (k : Nat) : In3 (List.replicate k [(2 : Int)]).flatten := fun x hx => by
  rw [List.mem_flatten] at hx
  obtain ⟨l, hl, hx⟩ := hx
  rw [(List.mem_replicate.mp hl).2] at hx
  simp at hx
  omega
theorem paintF_in3 {n : Int} (hn : 0 < n) (cs : List Int) : In3 (paintF n cs) := by
  unfold paintF
  refine lastP_in3 hn (outP_in3 (two_in3 _) _ ?_) _
  rw [List.length_take]; omega
theorem paintF_len {n : Int} (cs : List Int) : (paintF n cs).length = n.toNat := by
  unfold paintF
  rw [lastP_len, outP_len]
  simp
noncomputable def bit (c x : Int) : Int := if x = c then 1 else 0
theorem pc_at {ps : List Int} {i : Nat} {x : Int} (c : Int) (h : ps[i]? = some x) : pc ps c (i : Int) = bit c x := by
  unfold pc bit
  have e : ((i : Int)).toNat = i := by omega
  rw [e, List.getD_eq_getElem?_getD, h]; rfl
theorem over_no {p : Int} (h : p = 0 ∨ p = 1 ∨ p = 2) : ¬ Flt.Over p := by
  unfold Flt.Over
  rcases h with rfl | rfl | rfl <;> decide +kernel
theorem entry_ok {p : Int} (h : p = 0 ∨ p = 1 ∨ p = 2) : EntryOk p (bit 0 p) (bit 1 p) (bit 2 p) := by
  have ho := over_no h
  rcases h with rfl | rfl | rfl
  · exact entB_ok ho ent0
  · exact entB_ok ho ent1
  · exact entB_ok ho ent2
noncomputable def colB (a b c n : Int) : Bool := decide (n ≠ 0) && !Float64.isInf (divF a n) && !Float64.isInf (divF b n) && !Float64.isInf (divF c n) && rgbOk (divF a n) (divF b n) (divF c n)
theorem colB_ok {a b c n : Int} (h : colB a b c n = true) : ColOk a b c n := by
  unfold colB at h
  simp only [Bool.and_eq_true, decide_eq_true_eq, Bool.not_eq_true'] at h
  obtain ⟨⟨⟨⟨h1, h2⟩, h3⟩, h4⟩, h5⟩ := h
  exact ⟨h1, h2, h3, h4, h5⟩
noncomputable def mixB (a b c : Int) : Bool := colB a b c four && !Float64.isNaN (Float64.add (Float64.mul (Float64.mul 4616189618054758400 (colF a b c four).2.1) (colF a b c four).2.2) 4602678819172646912) && !Float64.isInf (Float64.add (Float64.mul (Float64.mul 4616189618054758400 (colF a b c four).2.1) (colF a b c four).2.2) 4602678819172646912)
theorem mixB_ok {a b c : Int} (h : mixB a b c = true) : MixOk a b c := by
  unfold mixB at h
  simp only [Bool.and_eq_true, Bool.not_eq_true'] at h
  exact ⟨colB_ok h.1.1, h.1.2, h.2⟩
noncomputable abbrev bx (c : Int) (x : Fin 3) : Int := bit c (x.val : Int)
noncomputable abbrev b4 (c : Int) (p q r s : Fin 3) : Int := bx c s + (bx c r + (bx c q + bx c p))
theorem mix_all : ∀ p q r s : Fin 3, mixB (b4 0 p q r s) (b4 1 p q r s) (b4 2 p q r s) = true := by decide +kernel
theorem in3_fin {x : Int} (h : x = 0 ∨ x = 1 ∨ x = 2) : ∃ f : Fin 3, x = (f.val : Int) := by
  rcases h with rfl | rfl | rfl
  · exact ⟨0, rfl⟩
  · exact ⟨1, rfl⟩
  · exact ⟨2, rfl⟩
theorem in3_getD {ps : List Int} (h : In3 ps) (k : Nat) : ps.getD k 0 = 0 ∨ ps.getD k 0 = 1 ∨ ps.getD k 0 = 2 := by
  rw [List.getD_eq_getElem?_getD]
  cases e : ps[k]? with
  | none => exact .inl rfl
  | some x => exact h x (List.mem_of_getElem? e)
theorem pc_fin {ps : List Int} (h : In3 ps) (i : Int) : ∃ f : Fin 3, ∀ c, pc ps c i = bx c f := by
  obtain ⟨f, hf⟩ := in3_fin (in3_getD h i.toNat)
  refine ⟨f, fun c => ?_⟩
  unfold pc bx bit
  rw [hf]
theorem hmix_all {ps : List Int} (h : In3 ps) (i j k l : Int) : MixOk (mixP ps 0 i j k l) (mixP ps 1 i j k l) (mixP ps 2 i j k l) := by
  obtain ⟨a, ha⟩ := pc_fin h i
  obtain ⟨b, hb⟩ := pc_fin h j
  obtain ⟨c, hc⟩ := pc_fin h k
  obtain ⟨d, hd⟩ := pc_fin h l
  unfold mixP
  rw [ha, ha, ha, hb, hb, hb, hc, hc, hc, hd, hd, hd]
  exact mixB_ok (mix_all a b c d)
noncomputable def ex (c : Int) (x : Fin 3) : Int := 1 - 2 * bx c x
noncomputable def hx (a b c : Fin 3) : Int := ex 0 a * ex 1 b * ex 2 c
noncomputable def psi (i j k l : Fin 3) : Int := hx i j k + hx i j l + hx i k j + hx i k l + hx i l j + hx i l k + hx j i k + hx j i l + hx j k i + hx j k l + hx j l i + hx j l k + hx k i j + hx k i l + hx k j i + hx k j l + hx k l i + hx k l j + hx l i j + hx l i k + hx l j i + hx l j k + hx l k i + hx l k j
theorem key_psi : ∀ i j k l : Fin 3, 24 * phi (keyF (b4 0 i j k l) (b4 1 i j k l) (b4 2 i j k l)) = -3 * psi i j k l := by decide +kernel
end Mine
end

section -- P7
open PySem PySem.W PyProof.Rows
set_option maxRecDepth 100000
namespace Mine
theorem chk_of {n g : Int} (hn : n = 5 ∨ n = 6 ∨ n = 7) (h0 : 0 ≤ g) (h1 : g < n) : ∃ (m k : Nat), n = (m : Int) ∧ g = (k : Int) ∧ chk m k = true := by
  have hk : g = (g.toNat : Int) := by omega
  rcases hn with rfl | rfl | rfl
  · exact ⟨5, g.toNat, rfl, hk, chk5 _ (by omega)⟩
  · exact ⟨6, g.toNat, rfl, hk, chk6 _ (by omega)⟩
  · exact ⟨7, g.toNat, rfl, hk, chk7 _ (by omega)⟩
theorem sum_mul {α : Type} (c : Int) (f : α → Int) : ∀ L : List α, c * (L.map f).sum = (L.map fun x => c * f x).sum
  | [] => by simp
  | x :: L => by rw [List.map_cons, List.sum_cons, Int.mul_add, sum_mul c f L, List.map_cons, List.sum_cons]
theorem sum_congr {α : Type} {f g : α → Int} : ∀ L : List α, (∀ x ∈ L, f x = g x) → (L.map f).sum = (L.map g).sum
  | [], _ => rfl
  | x :: L, h => by rw [List.map_cons, List.sum_cons, List.map_cons, List.sum_cons, h x (.head _), sum_congr L fun y hy => h y (.tail _ hy)]
noncomputable def eC (ps : List Int) (c i : Int) : Int := 1 - 2 * pc ps c i
noncomputable def hC (ps : List Int) (a b c : Int) : Int := eC ps 0 a * eC ps 1 b * eC ps 2 c
theorem perms_psi {ps : List Int} {i j k l : Int} {fi fj fk fl : Fin 3} (hi : ∀ c, pc ps c i = bx c fi) (hj : ∀ c, pc ps c j = bx c fj) (hk : ∀ c, pc ps c k = bx c fk) (hl : ∀ c, pc ps c l = bx c fl) :
    ((perms (i, j, k, l)).map fun t => hC ps t.1 t.2.1 t.2.2).sum = psi fi fj fk fl := by
  have ei : ∀ c, eC ps c i = ex c fi := fun c => by unfold eC ex; rw [hi]
  have ej : ∀ c, eC ps c j = ex c fj := fun c => by unfold eC ex; rw [hj]
  have ek : ∀ c, eC ps c k = ex c fk := fun c => by unfold eC ex; rw [hk]
  have el : ∀ c, eC ps c l = ex c fl := fun c => by unfold eC ex; rw [hl]
  simp only [perms, List.map_cons, List.map_nil, List.sum_cons, List.sum_nil, hC, ei, ej, ek, el, psi, hx]
  omega
theorem quad_psi {ps : List Int} (h : In3 ps) (q : Q4) : 24 * valQ phi ps q = -3 * (ordF (mixK q.1 q.2.1 q.2.2.1 q.2.2.2) * ((perms q).map fun t => hC ps t.1 t.2.1 t.2.2).sum) := by
  obtain ⟨i, j, k, l⟩ := q
  obtain ⟨fi, hi⟩ := pc_fin h i
  obtain ⟨fj, hj⟩ := pc_fin h j
  obtain ⟨fk, hk⟩ := pc_fin h k
  obtain ⟨fl, hl⟩ := pc_fin h l
  rw [perms_psi hi hj hk hl]
  have key := key_psi fi fj fk fl
  unfold valQ mixP
  dsimp only
  rw [hi, hi, hi, hj, hj, hj, hk, hk, hk, hl, hl, hl]
  rw [← Int.mul_assoc, key, Int.mul_comm (ordF _) (psi _ _ _ _), Int.mul_assoc]
theorem sum3 (f g h : Nat → Int) (n : Nat) : sumN (fun a => sumN (fun b => sumN (fun c => 24 * (f a * g b * h c)) n) n) n = 24 * (sumN f n * sumN g n * sumN h n) := by
  have e1 : ∀ a b, sumN (fun c => 24 * (f a * g b * h c)) n = 24 * (f a * g b * sumN h n) := fun a b => by rw [sumN_mul, sumN_mul]
  have e2 : ∀ a, sumN (fun b => sumN (fun c => 24 * (f a * g b * h c)) n) n = 24 * (f a * sumN g n * sumN h n) := fun a => by
    rw [sumN_congr n fun b _ => e1 a b, sumN_mul, sumN_mul_r, sumN_mul]
  rw [sumN_congr n fun a _ => e2 a, sumN_mul, sumN_mul_r, sumN_mul_r]
noncomputable def cntP (ps : List Int) (c : Int) (n : Nat) : Int := sumN (fun a => pc ps c (a : Int)) n
theorem sum_e (ps : List Int) (c : Int) : ∀ n, sumN (fun a => eC ps c (a : Int)) n = (n : Int) - 2 * cntP ps c n
  | 0 => rfl
  | n + 1 => by
    have ih := sum_e ps c n
    unfold cntP at ih ⊢
    simp only [sumN, eC] at ih ⊢
    rw [ih]; push_cast; omega
theorem heron {n g : Int} {ps : List Int} (hn : n = 5 ∨ n = 6 ∨ n = 7) (h0 : 0 ≤ g) (h1 : g < n) (h : In3 ps) :
    3 * (getI (tallyF n g ps) 4).getD 0 - (getI (tallyF n g ps) 2).getD 0 = -3 * ((n - 2 * cntP ps 0 n.toNat) * (n - 2 * cntP ps 1 n.toNat) * (n - 2 * cntP ps 2 n.toNat)) := by
  obtain ⟨hnd, hlin⟩ := tally_lin phi n g ps
  rw [getI_lin hnd, getI_lin hnd, lin_phi, hlin]
  obtain ⟨m, k, rfl, rfl, hc⟩ := chk_of hn h0 h1
  unfold chk at hc
  have hE := chkE_sum (Bool.and_eq_true_iff.mp hc).1 (hC ps)
  rw [ent_sum] at hE
  replace hE := hE.trans (sum3 (fun a => eC ps 0 a) (fun a => eC ps 1 a) (fun a => eC ps 2 a) m)
  rw [sum_e, sum_e, sum_e] at hE
  have h24 : 24 * ((quadsL (m : Int) (k : Int)).map (valQ phi ps)).sum = -3 * ((quadsL (m : Int) (k : Int)).map fun q => ordF (mixK q.1 q.2.1 q.2.2.1 q.2.2.2) * ((perms q).map fun t => hC ps t.1 t.2.1 t.2.2).sum).sum := by
    rw [sum_mul, sum_mul]
    exact sum_congr _ fun q _ => quad_psi h q
  rw [hE] at h24
  have e : ((m : Int)).toNat = m := by omega
  rw [e]
  generalize ((m : Int) - 2 * cntP ps 0 m) * ((m : Int) - 2 * cntP ps 1 m) * ((m : Int) - 2 * cntP ps 2 m) = X at h24 ⊢
  omega
theorem tally_count {n g : Int} {ps : List Int} (hn : n = 5 ∨ n = 6 ∨ n = 7) (h0 : 0 ≤ g) (h1 : g < n) : sumV (tallyF n g ps) = n * n * n := by
  obtain ⟨_, hlin⟩ := tally_lin (fun _ => 1) n g ps
  rw [sumV_lin, hlin]
  obtain ⟨m, k, rfl, rfl, hc⟩ := chk_of hn h0 h1
  unfold chk at hc
  have hS := eq_of_beq (Bool.and_eq_true_iff.mp hc).2
  have e : ((quadsL (m : Int) (k : Int)).map (valQ (fun _ => 1) ps)).sum = ((quadsL (m : Int) (k : Int)).map fun q => ordF (mixK q.1 q.2.1 q.2.2.1 q.2.2.2)).sum := sum_congr _ fun q _ => by unfold valQ; exact Int.one_mul _
  rw [e, hS]
  push_cast
  rfl
end Mine
end

section -- E2
open PySem PySem.W PySem.Calls PyProof.Rows PyProof.V PySem.Spec PyProof.Rows.LCg
set_option maxRecDepth 100000
namespace Mine
noncomputable def JEn (w : World) (ps : List Int) (base : List (Addr × Obj)) (i : Nat) (ys : List Value) (news' : List (Addr × Obj)) : Prop :=
  ∃ tl, news' = tl ++ base ∧ ys.length = i ∧ ∀ k, k < i → ∃ e, ys[k]? = some (.ref e) ∧ StatIn w e (pc ps 0 (k : Int)) (pc ps 1 (k : Int)) (pc ps 2 (k : Int)) 1 [((k : Int), 1)] tl
theorem JEn.start {w : World} {ps : List Int} {base : List (Addr × Obj)} : JEn w ps base 0 [] base := ⟨[], rfl, rfl, fun k hk => absurd hk (Nat.not_lt_zero k)⟩
theorem JEn.mem {w : World} {ps : List Int} {base : List (Addr × Obj)} {p : Addr × Obj} (hp : p ∈ base) : ∀ i ys news', JEn w ps base i ys news' → p ∈ news' := fun _ _ _ ⟨_, e, _⟩ => by
  rw [e]; exact List.mem_append_right _ hp
theorem JEn.step {w : World} {ps : List Int} {base tl : List (Addr × Obj)} {i : Nat} {ys : List Value} {c : Int} {D d : Addr} {o o' : Obj} (hc : ps[i]? = some c) (hl : ys.length = i)
    (hent : ∀ k, k < i → ∃ e, ys[k]? = some (.ref e) ∧ StatIn w e (pc ps 0 (k : Int)) (pc ps 1 (k : Int)) (pc ps 2 (k : Int)) 1 [((k : Int), 1)] tl)
    (hS : StatIn w D (bit 0 c) (bit 1 c) (bit 2 c) 1 [((i : Int), 1)] [(D, o), (d, o')]) : JEn w ps base (i + 1) (ys ++ [.ref D]) ((D, o) :: (d, o') :: (tl ++ base)) := by
  refine ⟨(D, o) :: (d, o') :: tl, rfl, by rw [List.length_append, hl]; rfl, fun k hk => ?_⟩
  by_cases h : k < i
  · obtain ⟨e, he, hs⟩ := hent k h
    exact ⟨e, by rw [List.getElem?_append_left (by omega)]; exact he, hs.mono fun p hp => .tail _ (.tail _ hp)⟩
  · have : k = i := by omega
    subst this
    refine ⟨D, by rw [← hl, List.getElem?_concat_length], ?_⟩
    rw [pc_at 0 hc, pc_at 1 hc, pc_at 2 hc]
    exact hS.mono fun p hp => by
      rcases List.mem_cons.mp hp with e | hp
      · rw [e]; exact .head _
      · rw [List.mem_singleton.mp hp]; exact .tail _ (.head _)
theorem off_new {news : List (Addr × Obj)} {a b c d p1 p2 : Addr × Obj} (hoff : ∀ p ∈ news, p.1 ≠ a.1 ∧ p.1 ≠ b.1 ∧ p.1 ≠ c.1 ∧ p.1 ≠ d.1) (ho : ∀ q ∈ a :: b :: c :: d :: news, ∀ p ∈ [p1, p2], q.1 < p.1) :
    ∀ p ∈ p1 :: p2 :: news, p.1 ≠ a.1 ∧ p.1 ≠ b.1 ∧ p.1 ≠ c.1 ∧ p.1 ≠ d.1 := by
  have key : ∀ p ∈ [p1, p2], p.1 ≠ a.1 ∧ p.1 ≠ b.1 ∧ p.1 ≠ c.1 ∧ p.1 ≠ d.1 := fun p hp =>
    ⟨Nat.ne_of_gt (ho _ (.head _) p hp), Nat.ne_of_gt (ho _ (.tail _ (.head _)) p hp), Nat.ne_of_gt (ho _ (.tail _ (.tail _ (.head _))) p hp), Nat.ne_of_gt (ho _ (.tail _ (.tail _ (.tail _ (.head _)))) p hp)⟩
  intro p hp
  rcases List.mem_cons.mp hp with e | hp
  · rw [e]; exact key _ (.head _)
  · rcases List.mem_cons.mp hp with e | hp
    · rw [e]; exact key _ (.tail _ (.head _))
    · exact hoff p hp
theorem news_mid {h₀ h : Heap} {L : Addr} {a b c d p1 p2 : Addr × Obj} {news : List (Addr × Obj)} (N : News h₀ L h (p1 :: p2 :: a :: b :: c :: d :: news)) : News h₀ L h (a :: b :: c :: d :: p1 :: p2 :: news) := news_sub N fun q hq => by
  simp only [List.mem_cons] at hq ⊢
  rcases hq with h | h | h | h | h | h | h <;> simp [h]
theorem news_pick {h₀ h : Heap} {L : Addr} {a x0 x1 x2 x3 x4 x5 x6 x7 x8 : Addr × Obj} {tl : List (Addr × Obj)} (N : News h₀ L h (a :: (tl ++ [x0, x1, x2, x3, x4, x5, x6, x7, x8]))) : News h₀ L h (a :: x1 :: x2 :: x7 :: x8 :: tl) := news_sub N fun q hq => by
  simp only [List.mem_cons, List.mem_append, List.not_mem_nil, or_false] at hq ⊢
  rcases hq with h | h | h | h | h | h <;> simp [h]
theorem ent_int {w : World} {ps : List Int} {ys : List Value} {tl : List (Addr × Obj)} {n : Int} {k : Nat} (hk : k = n.toNat) (hent : ∀ k', k' < k → ∃ e, ys[k']? = some (.ref e) ∧ StatIn w e (pc ps 0 (k' : Int)) (pc ps 1 (k' : Int)) (pc ps 2 (k' : Int)) 1 [((k' : Int), 1)] tl) :
    ∀ i : Int, 0 ≤ i → i < n → ∃ e, ys[i.toNat]? = some (.ref e) ∧ StatIn w e (pc ps 0 i) (pc ps 1 i) (pc ps 2 i) 1 [(i, 1)] tl := by
  intro i h0 h1
  have h := hent i.toNat (by omega)
  have e : ((i.toNat : Nat) : Int) = i := by omega
  rw [e] at h
  exact h
theorem law_gen {o : Obj} {x : Int} {t : Tok} {vals ws : List Value} {cs : List Int} (hc : o.data = Data.cell (some (Value.int (5 + x.fmod 3) t))) (hP : IntsAre vals (paintF (5 + x.fmod 3) cs)) (hC : IntsAre ws cs) (h3 : 3 ≤ cs.length) :
    ∃ (n : Int) (tn : Tok) (cs ps : List Int), o.data = Data.cell (some (Value.int n tn)) ∧ (n = 5 ∨ n = 6 ∨ n = 7) ∧ IntsAre vals ps ∧ In3 ps ∧ ps.length = n.toNat ∧ IntsAre ws cs ∧ 3 ≤ cs.length :=
  ⟨_, _, cs, _, hc, three_mod x, hP, paintF_in3 (by have := three_mod x; omega) cs, paintF_len cs, hC, h3⟩
end Mine
end

section -- E3
open PySem PySem.W PySem.Calls PyProof.Rows PyProof.V PySem.Spec PyProof.Rows.LCg
set_option maxRecDepth 100000
namespace Mine
section
variable {w : World} {A : Around} {E : Value → Shared → Prop} {s : Shared} {env : Env} {h₀ : Heap} {m : Str → Option Value} {news : List (Addr × Obj)} {x : Str} {body : List Stmt} {Q : Flow → Shared → Prop}
theorem l_loop2 {l : Addr} {vs : List Value} {nn : Nat} (hh : A.handled = none) (F : Fr h₀ env.locals s.heap m) (N : News h₀ env.locals s.heap news) (hm : (l, lstO vs nn) ∈ news) (J : Nat → (Str → Option Value) → List (Addr × Obj) → Prop) (h0 : J 0 m news)
    (step : ∀ i v it m₁ news₁ h tk own, vs[i]? = some v → J i m₁ news₁ → (∀ p ∈ news₁, p.1 ∉ [it]) → (∃ o, (it, o) ∈ own) →
      Fr h₀ env.locals h (fun y => if y = x then some v else m₁ y) → News h₀ env.locals h (own ++ news₁) →
      wpAny (model PR w) A (execs body env) (LoopStepV h₀ env.locals [it] own (J (i + 1)) { s with heap := h, toks := tk } (fun v s' => Q (.ret v) s') fun s' => Q .next s') E { s with heap := h, toks := tk })
    (done : ∀ h' tk m' news', Fr h₀ env.locals h' m' → News h₀ env.locals h' news' → J vs.length m' news' → Q .next { s with heap := h', toks := tk }) :
    wpAny (model PR w) A (pyIter (.ref l)) (fun it s₂ => MLoop PR w A h₀ env x body Q E it s₂) E s := by
  have hl : s.heap.IsList l vs.toArray := News.isList N hm
  have hne : l ≠ s.heap.objs.size := Nat.ne_of_lt (Heap.lt_size (N _ hm).1)
  refine wpAny_pyIter_list hl ?_
  refine loop_at (news := news) (m := m) (Walks.list hh s.heap.objs.size l hne vs.toArray) ?_ ?_ ?_ ⟨⟨_, Heap.get?_push_size _ rfl, rfl, rfl⟩, hl.push _⟩ (F.push _) (fun p hp => ⟨Heap.get?_push_of_some _ (N p hp).1, (N p hp).2⟩) J h0 ?_ ?_
  · intro hm'
    rcases List.mem_cons.mp hm' with e | hm'
    · exact absurd F.ns.lt (e ▸ Nat.lt_irrefl _)
    · exact (N _ hm).2.1 (List.mem_singleton.mp hm').symm
  · intro b hb
    rw [List.mem_singleton.mp hb]
    exact next_is_new F
  · intro p hp hI
    exact absurd (Heap.lt_size (N p hp).1) ((List.mem_singleton.mp hI) ▸ Nat.lt_irrefl _)
  · rintro i v m₁ news₁ h t own hi hv hJ hnw hown hall hst F₁ N₁
    (try ((with_reducible show wpAny _ _ _ _ _ _); k_fold)); (try (with_reducible refine any_tk ?_; intro _))
    obtain ⟨oI, hoI, _⟩ := hst.1
    exact step i v _ m₁ news₁ h t own (by simpa using hv) hJ hnw ⟨oI, hall _ (.head _) (next_is_new F) oI hoI⟩ F₁ N₁
  · intro h' tk m' news' F' N' hJ
    exact done h' tk m' news' F' N' (by simpa using hJ)
end
noncomputable def knF : Nat → KN
  | 0 => []
  | i + 1 => addC (knF i) [((i : Int), 1)]
theorem knF_len : ∀ i, (knF i).length ≤ i
  | 0 => Nat.le_refl _
  | i + 1 => by
    have := addC_one_len (knF i) ((i : Int), 1)
    have := knF_len i
    show (addC (knF i) [((i : Int), 1)]).length ≤ i + 1
    omega
theorem knF_sum : ∀ i, ND (knF i) ∧ sumV (knF i) = (i : Int)
  | 0 => ⟨List.nodup_nil, rfl⟩
  | i + 1 => by
    obtain ⟨h1, h2⟩ := knF_sum i
    have e : knF (i + 1) = addR (knF i) (i : Int) 1 := addC_one h1
    refine ⟨by rw [e]; exact addR_nd _ _ h1, ?_⟩
    rw [sumV_lin] at h2 ⊢
    rw [e, addR_lin, h2]
    push_cast; omega
theorem cntP_suc (ps : List Int) (c : Int) (i : Nat) : cntP ps c (i + 1) = pc ps c (i : Int) + cntP ps c i := by
  show cntP ps c i + pc ps c (i : Int) = _
  omega
theorem cntP_b {ps : List Int} (h : In3 ps) : ∀ m : Nat, 0 ≤ cntP ps 0 m ∧ 0 ≤ cntP ps 1 m ∧ 0 ≤ cntP ps 2 m ∧ cntP ps 0 m + cntP ps 1 m + cntP ps 2 m = (m : Int)
  | 0 => by simp [cntP, sumN]
  | m + 1 => by
    obtain ⟨a, b, c, d⟩ := cntP_b h m
    rw [cntP_suc, cntP_suc, cntP_suc]
    obtain ⟨f, hf⟩ := pc_fin h (m : Int)
    rw [hf, hf, hf]
    have : (bx 0 f = 1 ∧ bx 1 f = 0 ∧ bx 2 f = 0) ∨ (bx 0 f = 0 ∧ bx 1 f = 1 ∧ bx 2 f = 0) ∨ (bx 0 f = 0 ∧ bx 1 f = 0 ∧ bx 2 f = 1) := by
      exact (show ∀ f : Fin 3, (bx 0 f = 1 ∧ bx 1 f = 0 ∧ bx 2 f = 0) ∨ (bx 0 f = 0 ∧ bx 1 f = 1 ∧ bx 2 f = 0) ∨ (bx 0 f = 0 ∧ bx 1 f = 0 ∧ bx 2 f = 1) by decide) f
    push_cast
    omega
/-- between the turns of the loop that mixes the whole wheel -/
noncomputable def JW (w : World) (ps : List Int) (m0 : Str → Option Value) (base : List (Addr × Obj)) (i : Nat) (m' : Str → Option Value) (n' : List (Addr × Obj)) : Prop :=
  ∃ (u : Option Value) (t : Addr) (wl : List (Addr × Obj)), m' = (fun y => if y = Str.ofString "whole" then some (.ref t) else if y = Str.ofString "entry" then u else m0 y) ∧ n' = wl ++ base ∧ StatIn w t (cntP ps 0 i) (cntP ps 1 i) (cntP ps 2 i) (i : Int) (knF i) wl
theorem stat_cast {w : World} {t : Addr} {a b c n a' b' c' n' : Int} {kn kn' : KN} {l : List (Addr × Obj)} (h : StatIn w t a b c n kn l) (ha : a = a') (hb : b = b') (hc : c = c') (hn : n = n') (hk : kn = kn') : StatIn w t a' b' c' n' kn' l := by
  subst ha hb hc hn hk; exact h
theorem jw_end {w : World} {g h2 : Heap} {L it : Addr} {ps : List Int} {m0 : Str → Option Value} {base own wl wl' : List (Addr × Obj)} {i : Nat} {t' : Addr} {v x1 x2 : Option Value} {s₁ : Shared} {tk : Nat}
    (F : Fr g L h2 (fun y => if y = Str.ofString "whole" then some (.ref t') else if y = Str.ofString "entry" then v else if y = Str.ofString "whole" then x1 else if y = Str.ofString "entry" then x2 else m0 y)) (N : News g L h2 (wl' ++ (own ++ (wl ++ base)))) (hnw : ∀ p ∈ wl ++ base, p.1 ∉ [it]) (hit : ∀ p ∈ wl', p.1 ≠ it)
    (hS : StatIn w t' (cntP ps 0 (i + 1)) (cntP ps 1 (i + 1)) (cntP ps 2 (i + 1)) ((i + 1 : Nat) : Int) (knF (i + 1)) wl') : LoopStepU g L [it] own (JW w ps m0 base (i + 1)) s₁ .next { s₁ with heap := h2, toks := tk } :=
  LoopStepU.intro (news₂ := wl' ++ base) F (news_sub N fun p hp => by
    simp only [List.mem_append] at hp ⊢
    rcases hp with h | h | h <;> simp [h]) (fun p hp hm => by
    rcases List.mem_append.mp hp with h | h
    · exact hit p h (List.mem_singleton.mp hm)
    · exact hnw p (List.mem_append_right _ h) hm) ⟨v, t', wl', by
      funext y
      by_cases h1 : y = Str.ofString "whole"
      · simp [h1]
      · by_cases h2 : y = Str.ofString "entry"
        · simp [h2]
        · simp [h1, h2], rfl, hS⟩
theorem stats_next {w : World} {ps : List Int} {D : Addr} {i : Nat} {l : List (Addr × Obj)} (h : StatIn w D (pc ps 0 (i : Int) + cntP ps 0 i) (pc ps 1 (i : Int) + cntP ps 1 i) (pc ps 2 (i : Int) + cntP ps 2 i) (1 + (i : Int)) (addC (knF i) [((i : Int), 1)]) l) :
    StatIn w D (cntP ps 0 (i + 1)) (cntP ps 1 (i + 1)) (cntP ps 2 (i + 1)) ((i + 1 : Nat) : Int) (knF (i + 1)) l :=
  stat_cast h (cntP_suc ..).symm (cntP_suc ..).symm (cntP_suc ..).symm (by push_cast; omega) rfl
theorem ent_mono {w : World} {ps : List Int} {ys : List Value} {n : Int} {tl news : List (Addr × Obj)} (h : ∀ i : Int, 0 ≤ i → i < n → ∃ e, ys[i.toNat]? = some (.ref e) ∧ StatIn w e (pc ps 0 i) (pc ps 1 i) (pc ps 2 i) 1 [(i, 1)] tl) (hs : ∀ p ∈ tl, p ∈ news) :
    ∀ i : Int, 0 ≤ i → i < n → ∃ e, ys[i.toNat]? = some (.ref e) ∧ StatIn w e (pc ps 0 i) (pc ps 1 i) (pc ps 2 i) 1 [(i, 1)] news := fun i h0 h1 =>
  let ⟨e, he, hS⟩ := h i h0 h1
  ⟨e, he, hS.mono hs⟩
theorem JW.start {w : World} {ps : List Int} {m1 : Str → Option Value} {base : List (Addr × Obj)} {T d : Addr} {o : Obj} {t1 t2 t3 t4 : Tok} (hm : m1 (Str.ofString "whole") = some (.ref T)) (D0 : DAt w d o []) :
    JW w ps m1 base 0 m1 ((T, tupO [.int 0 t1, .int 0 t2, .int 0 t3, .int 0 t4, .ref d]) :: (d, o) :: base) := by
  refine ⟨m1 (Str.ofString "entry"), T, [(T, tupO [.int 0 t1, .int 0 t2, .int 0 t3, .int 0 t4, .ref d]), (d, o)], ?_, rfl, ⟨d, o, t1, t2, t3, t4, .head _, .tail _ (.head _), D0⟩⟩
  funext y
  by_cases h1 : y = Str.ofString "whole"
  · rw [if_pos h1, h1, hm]
  · by_cases h2 : y = Str.ofString "entry"
    · rw [if_neg h1, if_pos h2, h2]
    · rw [if_neg h1, if_neg h2]
theorem stat_end {w : World} {ps : List Int} {n : Int} {t : Addr} {k : Nat} {wl : List (Addr × Obj)} (hn0 : 0 < n) (hk : k = n.toNat) (hin3 : In3 ps) (hS : StatIn w t (cntP ps 0 k) (cntP ps 1 k) (cntP ps 2 k) (k : Int) (knF k) wl) :
    ∃ r g b : Int, r = cntP ps 0 n.toNat ∧ g = cntP ps 1 n.toNat ∧ b = cntP ps 2 n.toNat ∧ 0 ≤ r ∧ 0 ≤ g ∧ 0 ≤ b ∧ r + g + b = n ∧ ∃ kn, StatIn w t r g b n kn wl ∧ sumV kn = n := by
  subst hk
  have hb := cntP_b hin3 n.toNat
  have e : ((n.toNat : Nat) : Int) = n := by omega
  refine ⟨_, _, _, rfl, rfl, rfl, hb.1, hb.2.1, hb.2.2.1, by omega, knF n.toNat, stat_cast hS rfl rfl rfl e rfl, ?_⟩
  rw [(knF_sum n.toNat).2, e]
end Mine
end

section -- E4
open PySem PySem.W PySem.Calls PyProof.Rows PyProof.V PySem.Spec PyProof.Rows.LCg
set_option maxRecDepth 100000
namespace Mine
theorem int_ok {prog : Program} {w : World} {A : Around} {E : Value → Shared → Prop} {s : Shared} {x : UInt64} {t : Tok} {Q : Value → Shared → Prop} (hA : A.handled = none) (hn : Float64.isNaN x = false) (hi : Float64.isInf x = false)
    (h : Q (.int (Flt.toInt Float64.truncOf x) s.toks) { s with toks := s.toks + 1 }) : wpAny (model prog w) A (call (.type "int") [.float x t]) Q E s :=
  Flt.call_int_float3 hA (fun e => (tf hn e).elim) (fun e => (tf hi e).elim) (fun _ => h)
noncomputable abbrev wv (r g b n : Int) : UInt64 := (colF r g b n).2.2
noncomputable abbrev ws (r g b n : Int) : UInt64 := (colF r g b n).2.1
noncomputable abbrev wf (r g b n : Int) : UInt64 := (Float64.divmod (Float64.mul (colF r g b n).1 4618441417868443648) 4611686018427387904).2
noncomputable abbrev wp2 (r g b n : Int) : UInt64 := Float64.mul (wv r g b n) (Float64.sub 4607182418800017408 (ws r g b n))
noncomputable abbrev wp3 (r g b n : Int) : UInt64 := Float64.mul (wv r g b n) (Float64.add (Float64.sub 4607182418800017408 (ws r g b n)) (Float64.mul (ws r g b n) (fmin2 (wf r g b n) (Float64.sub 4611686018427387904 (wf r g b n)))))
noncomputable abbrev wx (p : UInt64) (n : Int) : UInt64 := Float64.add (Float64.mul p (Float64.ofInt n)) 4602678819172646912
noncomputable abbrev wc (p : UInt64) (n : Int) : Int := Flt.toInt Float64.truncOf (wx p n)
structure WholeOk (r g b n : Int) : Prop where
  col : ColOk r g b n
  n1 : Float64.isNaN (wx (wv r g b n) n) = false
  i1 : Float64.isInf (wx (wv r g b n) n) = false
  n2 : Float64.isNaN (wx (wp2 r g b n) n) = false
  i2 : Float64.isInf (wx (wp2 r g b n) n) = false
  n3 : Float64.isNaN (wx (wp3 r g b n) n) = false
  i3 : Float64.isInf (wx (wp3 r g b n) n) = false
  same : [wc (wv r g b n) n, wc (wp2 r g b n) n, wc (wp3 r g b n) n].Perm [r, g, b]
noncomputable def wholeB (r g b n : Int) : Bool := colB r g b n && !Float64.isNaN (wx (wv r g b n) n) && !Float64.isInf (wx (wv r g b n) n) && !Float64.isNaN (wx (wp2 r g b n) n) && !Float64.isInf (wx (wp2 r g b n) n) && !Float64.isNaN (wx (wp3 r g b n) n) && !Float64.isInf (wx (wp3 r g b n) n) &&
  [wc (wv r g b n) n, wc (wp2 r g b n) n, wc (wp3 r g b n) n].isPerm [r, g, b]
theorem wholeB_ok {r g b n : Int} (h : wholeB r g b n = true) : WholeOk r g b n := by
  unfold wholeB at h
  simp only [Bool.and_eq_true, Bool.not_eq_true'] at h
  obtain ⟨⟨⟨⟨⟨⟨⟨h1, h2⟩, h3⟩, h4⟩, h5⟩, h6⟩, h7⟩, h8⟩ := h
  exact ⟨colB_ok h1, h2, h3, h4, h5, h6, h7, List.isPerm_iff.mp h8⟩
noncomputable def allB (n : Nat) : Bool := (List.range (n + 1)).all fun r => (List.range (n + 1)).all fun g => decide (n < r + g) || wholeB (r : Int) (g : Int) ((n - r - g : Nat) : Int) (n : Int)
theorem all5 : allB 5 = true := by decide +kernel
theorem all6 : allB 6 = true := by decide +kernel
theorem all7 : allB 7 = true := by decide +kernel
theorem allB_of {m : Nat} (h : allB m = true) {r g b : Int} (hr : 0 ≤ r) (hg : 0 ≤ g) (hb : 0 ≤ b) (hs : r + g + b = (m : Int)) : WholeOk r g b (m : Int) := by
  unfold allB at h
  have h1 := List.all_eq_true.mp h r.toNat (List.mem_range.mpr (by omega))
  have h2 := List.all_eq_true.mp h1 g.toNat (List.mem_range.mpr (by omega))
  rw [Bool.or_eq_true] at h2
  rcases h2 with h2 | h2
  · have := of_decide_eq_true h2; omega
  · have er : ((r.toNat : Nat) : Int) = r := by omega
    have eg : ((g.toNat : Nat) : Int) = g := by omega
    have eb : ((m - r.toNat - g.toNat : Nat) : Int) = b := by omega
    rw [er, eg, eb] at h2
    exact wholeB_ok h2
theorem whole_ok {r g b n : Int} (hn : n = 5 ∨ n = 6 ∨ n = 7) (hr : 0 ≤ r) (hg : 0 ≤ g) (hb : 0 ≤ b) (hs : r + g + b = n) : WholeOk r g b n := by
  rcases hn with rfl | rfl | rfl
  · exact allB_of all5 hr hg hb hs
  · exact allB_of all6 hr hg hb hs
  · exact allB_of all7 hr hg hb hs
theorem perm_prod {a b c r g e n : Int} (h : [a, b, c].Perm [r, g, e]) : (n - 2 * a) * (n - 2 * b) * (n - 2 * c) = (n - 2 * r) * (n - 2 * g) * (n - 2 * e) := by
  have h2 : ([a, b, c].map fun x => n - 2 * x).Perm ([r, g, e].map fun x => n - 2 * x) := h.map _
  have h3 : ∀ l l' : List Int, l.Perm l' → l.foldr (· * ·) 1 = l'.foldr (· * ·) 1 := by
    intro l l' hp
    induction hp with
    | nil => rfl
    | cons x _ ih => simp only [List.foldr_cons, ih]
    | swap x y l => simp only [List.foldr_cons]; rw [← Int.mul_assoc, ← Int.mul_assoc, Int.mul_comm y x]
    | trans _ _ ih1 ih2 => exact ih1.trans ih2
  have h4 := h3 _ _ h2
  simp only [List.map_cons, List.map_nil, List.foldr_cons, List.foldr_nil, Int.mul_one] at h4
  rw [Int.mul_assoc, Int.mul_assoc]
  exact h4
theorem news_last {h₀ h : Heap} {L : Addr} {dT dD p dc c2 c1 a1 a2 : Addr × Obj} {wl tl : List (Addr × Obj)} (N : News h₀ L h (wl ++ dT :: dD :: p :: dc :: c2 :: c1 :: tl)) (h1 : a1 ∈ wl) (h2 : a2 ∈ wl) : News h₀ L h [dT, p, c2, c1, a1, a2] := news_sub N fun q hq => by
  simp only [List.mem_cons, List.not_mem_nil, or_false] at hq
  simp only [List.mem_append, List.mem_cons]
  rcases hq with rfl | rfl | rfl | rfl | rfl | rfl <;> simp [*]
end Mine
end

section -- E5
open PySem PySem.W PySem.Calls PyProof.Rows PyProof.V PySem.Spec PyProof.Rows.LCg
set_option maxRecDepth 100000
namespace Mine
theorem d_get {w : World} {A : Around} {E : Value → Shared → Prop} {s : Shared} {h₀ : Heap} {L : Addr} {news : List (Addr × Obj)} {d : Addr} {o : Obj} {kn : KN} {i z : Int} {t tz : Tok} {Q : Value → Shared → Prop} (N : News h₀ L s.heap news) (hm : (d, o) ∈ news) (D : DAt w d o kn)
    (h : ∀ t', Q (.int ((getI kn i).getD z) t') { s with toks := s.toks + 1 }) : wpAny (model PR w) A (call (.builtin "dict.get") [.ref d, .int i t, .int z tz]) Q E s :=
  call_get2_tab PyProof.V.same_int (intKind_is PR w i t) (D.tab (N _ hm).1) (Flat.int z tz) fun v hv => by
    rw [lookup_enc] at hv
    cases e : getI kn i with
    | none =>
      rw [e] at hv
      obtain ⟨t', rfl⟩ := (show Flat v (.int z) from hv).int_inv
      have := h t'; rw [e] at this; exact this
    | some y =>
      rw [e] at hv
      obtain ⟨t', rfl⟩ := (show Flat v (.int y) from hv).int_inv
      have := h t'; rw [e] at this; exact this
theorem ne_eq9 {prog : Program} {w : World} {A : Around} {E : Value → Shared → Prop} {s : Shared} {h₀ : Heap} {L : Addr} {news : List (Addr × Obj)} {a b : Addr} {vs us : List Value} {n1 n2 : Nat} {ns ms : List Int} {Q : Value → Shared → Prop}
    (N : News h₀ L s.heap news) (hm : (a, lstO vs n1) ∈ news) (hm' : (b, lstO us n2) ∈ news) (hi : IntsAre vs ns) (hi' : IntsAre us ms) (hu : A.units + 64 < cLine) (e : ns = ms) (h : Q (.bool false) s) : wpAny (model prog w) A (compareOp .NotEq (.ref a) (.ref b)) Q E s :=
  ne_same N hm hm' hi (e ▸ hi') hu h
theorem sorted_same {n1 n2 A B : List Int} (p1 : n1.Perm A) (o1 : n1.Pairwise (· ≤ ·)) (p2 : n2.Perm B) (o2 : n2.Pairwise (· ≤ ·)) (h : A.Perm B) : n1 = n2 :=
  List.Perm.eq_of_pairwise (le := (· ≤ ·)) (fun _ _ _ _ x y => Int.le_antisymm x y) o1 o2 (p1.trans (h.trans p2.symm))
theorem cntP_take {ps : List Int} (c : Int) : ∀ k, k ≤ ps.length → cntP ps c k = ((ps.take k).count c : Nat)
  | 0, _ => by simp [cntP, sumN]
  | k + 1, h => by
    have ih := cntP_take (ps := ps) c k (by omega)
    have hk : k < ps.length := by omega
    rw [cntP_suc, ih, List.take_add_one, List.getElem?_eq_getElem hk, List.count_append]
    rw [pc_at c (List.getElem?_eq_getElem hk)]
    unfold bit
    by_cases e : ps[k] = c
    · simp [e]; omega
    · simp [e]
theorem cnt_count {ps : List Int} {n : Int} (c : Int) (h : ps.length = n.toNat) : cntP ps c n.toNat = (ps.count c : Nat) := by
  rw [cntP_take c n.toNat (by omega), ← h, List.take_length]
theorem hAB_of {ps : List Int} {n r gg b : Int} (hplen : ps.length = n.toNat) (hr : r = cntP ps 0 n.toNat) (hg : gg = cntP ps 1 n.toNat) (hb : b = cntP ps 2 n.toNat) (hW : WholeOk r gg b n) :
  [wc (wv r gg b n) n, wc (wp2 r gg b n) n, wc (wp3 r gg b n) n].Perm [((ps.count 0 : Nat) : Int), ((ps.count 1 : Nat) : Int), ((ps.count 2 : Nat) : Int)] := by
  have h9 := hW.same
  rw [cnt_count 0 hplen] at hr
  rw [cnt_count 1 hplen] at hg
  rw [cnt_count 2 hplen] at hb
  have e : [r, gg, b] = [((ps.count 0 : Nat) : Int), ((ps.count 1 : Nat) : Int), ((ps.count 2 : Nat) : Int)] := by rw [hr, hg, hb]
  exact h9.trans (List.Perm.of_eq e)
end Mine
end

section -- E6
open PySem PySem.W PySem.Calls PyProof.Rows PyProof.V PySem.Spec PyProof.Rows.LCg
set_option maxRecDepth 100000
namespace Mine
theorem pow3 {prog : Program} {w : World} {A : Around} {E : Value → Shared → Prop} {s : Shared} {n : Int} {t u : Tok} {Q : Value → Shared → Prop} (hn : n = 5 ∨ n = 6 ∨ n = 7) (h : Q (.int (n * n * n) s.toks) { s with toks := s.toks + 1 }) :
    wpAny (model prog w) A (binaryOp .Pow (.int n t) (.int 3 u)) Q E s := by
  refine pow_int_small (by decide) (by decide) (by omega) ?_
  have e : n ^ (3 : Int).toNat = n * n * n := by
    rcases hn with rfl | rfl | rfl <;> rfl
  rw [e]; exact h
theorem ne_int_eq {prog : Program} {w : World} {A : Around} {E : Value → Shared → Prop} {s : Shared} {a b : Int} {t u : Tok} {Q : Value → Shared → Prop} (e : a = b) (h : Q (.bool false) s) :
    wpAny (model prog w) A (compareOp .NotEq (.int a t) (.int b u)) Q E s := by
  subst e
  refine ne_int ?_
  simpa using h
theorem eq_int_eq {prog : Program} {w : World} {A : Around} {E : Value → Shared → Prop} {s : Shared} {a b : Int} {t u : Tok} {Q : Value → Shared → Prop} (e : a = b) (h : Q (.bool true) s) :
    wpAny (model prog w) A (compareOp .Eq (.int a t) (.int b u)) Q E s := by
  subst e
  refine eq_int ?_
  simpa using h
theorem dat_count {w : World} {d : Addr} {o : Obj} {n g : Int} {ps : List Int} (_ : DAt w d o (tallyF n g ps)) (hn : n = 5 ∨ n = 6 ∨ n = 7) (h0 : 0 ≤ g) (h1 : g < n) : sumV (tallyF n g ps) = n * n * n := tally_count hn h0 h1
theorem dat_fin {w : World} {d : Addr} {o : Obj} {n g r gg b : Int} {ps : List Int} (_ : DAt w d o (tallyF n g ps)) (hn : n = 5 ∨ n = 6 ∨ n = 7) (h0 : 0 ≤ g) (h1 : g < n) (h : In3 ps) (hr : r = cntP ps 0 n.toNat) (hg : gg = cntP ps 1 n.toNat) (hb : b = cntP ps 2 n.toNat) (hW : WholeOk r gg b n) :
    3 * (getI (tallyF n g ps) 4).getD 0 - (getI (tallyF n g ps) 2).getD 0 = -3 * (n - 2 * wc (wv r gg b n) n) * (n - 2 * wc (wp2 r gg b n) n) * (n - 2 * wc (wp3 r gg b n) n) := by
  have e := perm_prod (n := n) hW.same
  rw [heron hn h0 h1 h, ← hr, ← hg, ← hb, ← e]
  simp only [Int.mul_assoc]
end Mine
end

section -- E7
open PySem PySem.W PySem.Calls PyProof.Rows PyProof.V PySem.Spec PyProof.Rows.LCg
set_option maxRecDepth 100000
namespace Mine
section
variable {prog : Program} {w : World} {A : Around} {E : Value → Shared → Prop} {s : Shared} {h₀ : Heap} {L : Addr} {news : List (Addr × Obj)} {value slice : Expr} {l : Addr} {ys : List Value} {f : Int → Int} {a b c : Int} {u : Tok} {Q : Value → Shared → Prop}
theorem tri0 (N : News h₀ L s.heap news) (hm : (l, LCg.lst ys) ∈ news) (hi : IntsAre ys (List.map f [a, b, c])) (h : ∀ t, Q (.int (f a) t) s)
    (hs : ∀ (l : Addr) (k : Int) (u : Tok), subscripted slice false (.ref l) (.int k u) = operate [.ref l, .int k u] (getItem (.ref l) (.int k u)) := by intro _ _ _; with_unfolding_all rfl) :
    wpAny (model prog w) A (subscriptTail value slice (.ref l) (.int 0 u)) Q E s :=
  ints_item (n := ys.length) N hm hi (by decide) (by simp) (by decide) h hs
theorem tri1 (N : News h₀ L s.heap news) (hm : (l, LCg.lst ys) ∈ news) (hi : IntsAre ys (List.map f [a, b, c])) (h : ∀ t, Q (.int (f b) t) s)
    (hs : ∀ (l : Addr) (k : Int) (u : Tok), subscripted slice false (.ref l) (.int k u) = operate [.ref l, .int k u] (getItem (.ref l) (.int k u)) := by intro _ _ _; with_unfolding_all rfl) :
    wpAny (model prog w) A (subscriptTail value slice (.ref l) (.int 1 u)) Q E s :=
  ints_item (n := ys.length) N hm hi (by decide) (by simp) (by decide) h hs
theorem tri2 (N : News h₀ L s.heap news) (hm : (l, LCg.lst ys) ∈ news) (hi : IntsAre ys (List.map f [a, b, c])) (h : ∀ t, Q (.int (f c) t) s)
    (hs : ∀ (l : Addr) (k : Int) (u : Tok), subscripted slice false (.ref l) (.int k u) = operate [.ref l, .int k u] (getItem (.ref l) (.int k u)) := by intro _ _ _; with_unfolding_all rfl) :
    wpAny (model prog w) A (subscriptTail value slice (.ref l) (.int 2 u)) Q E s :=
  ints_item (n := ys.length) N hm hi (by decide) (by simp) (by decide) h hs
end
theorem mul_by {prog : Program} {w : World} {A : Around} {E : Value → Shared → Prop} {s : Shared} {a b : Int} {t u : Tok} {Q : Value → Shared → Prop} (hb : Builtin.Int.intBits b ≤ 64) (h : Q (.int (a * b) s.toks) { s with toks := s.toks + 1 }) :
    wpAny (model prog w) A (binaryOp .Mult (.int a t) (.int b u)) Q E s := mul_int h (IntMulOk.of_right hb)
theorem mul_lit {prog : Program} {w : World} {A : Around} {E : Value → Shared → Prop} {s : Shared} {a b : Int} {t u : Tok} {Q : Value → Shared → Prop} (ha : Builtin.Int.intBits a ≤ 64) (h : Q (.int (a * b) s.toks) { s with toks := s.toks + 1 }) :
    wpAny (model prog w) A (binaryOp .Mult (.int a t) (.int b u)) Q E s := mul_int h (IntMulOk.of_left ha)
theorem lack_bits {n r gg b : Int} (hn : n = 5 ∨ n = 6 ∨ n = 7) (hr : 0 ≤ r) (hg : 0 ≤ gg) (hb : 0 ≤ b) (hs : r + gg + b = n) (hW : WholeOk r gg b n) :
    Builtin.Int.intBits (n - 2 * wc (wv r gg b n) n) ≤ 64 ∧ Builtin.Int.intBits (n - 2 * wc (wp2 r gg b n) n) ≤ 64 ∧ Builtin.Int.intBits (n - 2 * wc (wp3 r gg b n) n) ≤ 64 := by
  have h : ∀ x : Int, x ∈ [wc (wv r gg b n) n, wc (wp2 r gg b n) n, wc (wp3 r gg b n) n] → 0 ≤ x ∧ x ≤ 7 := fun x hx => by
    have h1 := hW.same.mem_iff.mp hx
    simp only [List.mem_cons, List.not_mem_nil, or_false] at h1
    rcases h1 with rfl | rfl | rfl <;> omega
  have k : ∀ x : Int, 0 ≤ x ∧ x ≤ 7 → Builtin.Int.intBits (n - 2 * x) ≤ 64 := fun x hx => intBits_le_64 (by omega) (by omega)
  exact ⟨k _ (h _ (by simp)), k _ (h _ (by simp)), k _ (h _ (by simp))⟩
theorem good_end {c : ClaimW} {cl : Str → Option Addr} {mean : ExcName → Option Value} {args : List WData} {s₁ s' : Shared} {L : Addr} {m : Str → Option Value} (F : Fr s₁.heap L s'.heap m) (hg : AllBare s'.gens) (hn : ∀ cls, c.raises args cls = false) (hp : c.post args (.bool true) args = true) (hos : s'.os = s₁.os) :
    GoodWG c cl mean args s₁ (.ok (.ret (.bool true))) s' :=
  ⟨.inl ⟨_, _, [], rfl, hn, ReadsW.bool true, hp, fun _ => ⟨List.nodup_nil, fun _ hm => (nomatch hm)⟩⟩, .of_keep F.keep, hos, hg⟩
theorem bare2 {a b c : Array GenState} (h : a = #[]) (x : BareTo a b) (y : BareTo b c) : AllBare c := y (x (.of_eq h))
theorem law_post (ns : List Int) : PySem.Challenge.rw_wo0018_01.row.claim.post [ofPy (PyData.list (List.map PyData.int ns))] (WData.bool true) [ofPy (PyData.list (List.map PyData.int ns))] = true := by
  with_unfolding_all rfl
end Mine
end

section -- M6
open PySem PySem.W PyProof.Rows PyProof.V PySem.Spec
set_option maxRecDepth 100000
set_option maxHeartbeats 8000000
namespace Mine
theorem off_M6 : True := by
  w_top off
  trivial
theorem law_holds : PySem.Challenge.rw_wo0018_01.Holds := hd (by
  lge_go0
  k_drop
  (rename LGe.Mark => lgeM)
  clear lgeM
  (try ((with_reducible show wpAny _ _ _ _ _ _); k_fold)); (try (with_reducible refine any_tk ?_; intro _)); (repeat' (first | (k_unfold; (try dsimp only)) | (k_end; wrow_close) | ((with_reducible show wpAny _ _ (execs (_ :: _) _) _ _ _); (with_reducible refine any_tk ?_); intro _) | ((with_reducible show wpAny _ _ (subscriptTail _ _ _ _) _ _ _); (first | ((with_reducible show wpAny _ _ (subscriptTail (PySem.Expr.List _ _) (PySem.Expr.Slice _ _ _ _) (Value.ref _) (Value.ref _)) _ _ _); k_dflt (k_here; (with_reducible show wpAny _ _ (subscriptTail _ (PySem.Expr.Slice (some _) none none _) (Value.ref _) (Value.ref _)) _ _ _); k_dflt (refine kba_turn (value' := PySem.Expr.Name (PySem.Str.ofString "_") ⟨0, 0, 0, 0⟩) (fun _ => rfl) ?_))) | ((with_reducible show wpAny _ _ (subscriptTail (PySem.Expr.Name _ _) (PySem.Expr.Constant _ _ _) (Value.ref _) (Value.int _ _)) _ _ _); k_dflt ((rename WholeOk _ _ _ _ => hWz); k_here; (with_reducible show wpAny _ _ (subscriptTail _ _ (Value.ref _) (Value.int 2 _)) _ _ _); k_dflt (refine' tri2 ?N ?hm ?hi ?_; (case N => k_asm); (case hm => k_mem); (case hi => with_reducible assumption)); intro _)) | ((with_reducible show wpAny _ _ (subscriptTail (PySem.Expr.Name _ _) (PySem.Expr.Constant _ _ _) (Value.ref _) (Value.int _ _)) _ _ _); k_dflt ((rename WholeOk _ _ _ _ => hWz); k_here; (with_reducible show wpAny _ _ (subscriptTail _ _ (Value.ref _) (Value.int 1 _)) _ _ _); k_dflt (refine' tri1 ?N ?hm ?hi ?_; (case N => k_asm); (case hm => k_mem); (case hi => with_reducible assumption)); intro _)) | ((with_reducible show wpAny _ _ (subscriptTail (PySem.Expr.Name _ _) (PySem.Expr.Constant _ _ _) (Value.ref _) (Value.int _ _)) _ _ _); k_dflt ((rename WholeOk _ _ _ _ => hWz); k_here; (with_reducible show wpAny _ _ (subscriptTail _ _ (Value.ref _) (Value.int 0 _)) _ _ _); k_dflt (refine' tri0 ?N ?hm ?hi ?_; (case N => k_asm); (case hm => k_mem); (case hi => with_reducible assumption)); intro _)) | ((with_reducible show wpAny _ _ (subscriptTail (PySem.Expr.Name _ _) (PySem.Expr.Constant _ _ _) (Value.ref _) (Value.int _ _)) _ _ _); k_dflt (k_here; (with_reducible show wpAny _ _ (subscriptTail _ _ (Value.ref _) (Value.int _ _)) _ _ _); (refine' tup_item ?N ?hm ?h0 ?h1 ?hj ?hx ?_; (case N => k_asm); (case hm => k_mem); (case h0 => decide); (case h1 => decide); (case hj => rfl); (case hx => rfl)))) | ((with_reducible show wpAny _ _ (subscriptTail (PySem.Expr.Name _ _) (PySem.Expr.Slice _ _ _ _) (Value.ref _) (Value.ref _)) _ _ _); k_dflt (k_here; (with_reducible show wpAny _ _ (subscriptTail _ (PySem.Expr.Slice (some _) none none _) (Value.ref _) (Value.ref _)) _ _ _); (k_dflt (refine' slice_from ?F ?N ?hm ?hi ?hy ?hz ?_ ?hs ?ht; (case F => k_asm); (case N => k_asm); (case hm => k_mem); (case hi => exact .cons _ _ (.cons _ _ (.cons _ _ .nil))); (case hy => omega); (case hz => decide); (case hs => with_unfolding_all rfl); (case ht => kmk_pure)); intro _ _ _ _ _ l1 _; (try k_lt l1)))) | ((with_reducible show wpAny _ _ (subscriptTail (PySem.Expr.Name _ _) (PySem.Expr.Constant _ _ _) (Value.ref _) (Value.int _ _)) _ _ _); k_dflt (k_here; (with_reducible show wpAny _ _ (subscriptTail _ _ (Value.ref _) (Value.int _ _)) _ _ _); k_dflt (refine' ints_item ?N ?hm ?hi ?h0 ?h1 ?h2 ?_; (case N => k_asm); (case hm => k_mem); (case hi => assumption); (case h0 => decide); (case h2 => decide); (case h1 => first | exact cells_pos | omega)); intro _)))) | ((with_reducible show wpAny _ _ (binaryOp _ _ _) _ _ _); (first | ((with_reducible show wpAny _ _ (binaryOp PySem.Operator.Mult (Value.int _ _) (Value.int _ _)) _ _ _); k_dflt ((rename WholeOk _ _ _ _ => hWz); k_here; (with_reducible show wpAny _ _ (binaryOp _ (Value.int (3 : Int) _) (Value.int _ _)) _ _ _); (with_reducible refine mul_lit ?kb1 ?_); (case kb1 => decide))) | ((with_reducible show wpAny _ _ (binaryOp PySem.Operator.Mult (Value.int _ _) (Value.int _ _)) _ _ _); k_dflt ((rename WholeOk _ _ _ _ => hWz); k_here; (with_reducible refine mul_by ?kb1 ?_); (case kb1 => with_reducible assumption))) | ((with_reducible show wpAny _ _ (binaryOp PySem.Operator.Pow (Value.int _ _) (Value.int _ _)) _ _ _); k_dflt ((rename WholeOk _ _ _ _ => hWz); k_here; (with_reducible refine pow3 ?kb1 ?_); (case kb1 => with_reducible assumption))))) | ((with_reducible show wpAny _ _ (compareOp _ _ _) _ _ _); (first | ((with_reducible show wpAny _ _ (compareOp PySem.CmpOp.Eq (Value.int _ _) (Value.int _ _)) _ _ _); k_dflt ((rename WholeOk _ _ _ _ => hWz); k_here; (with_reducible refine eq_int_eq ?kb1 ?_); (case kb1 => with_reducible assumption))) | ((with_reducible show wpAny _ _ (compareOp PySem.CmpOp.NotEq (Value.int _ _) (Value.int _ _)) _ _ _); k_dflt ((rename WholeOk _ _ _ _ => hWz); k_here; (with_reducible refine ne_int_eq ?kb1 ?_); (case kb1 => with_reducible assumption))) | ((with_reducible show wpAny _ _ (compareOp PySem.CmpOp.NotEq (Value.ref _) (Value.ref _)) _ _ _); k_dflt ((rename WholeOk _ _ _ _ => hWz); k_here; (with_reducible show wpAny _ _ (compareOp CmpOp.NotEq (Value.ref _) (Value.ref _)) _ _ _); k_dflt (refine' ne_eq9 ?N ?hm ?hm2 ?hi ?hi2 ?hu ?he ?_; (case N => k_asm); (case hm => k_mem); (case hm2 => k_mem); (case hi => assumption); (case hi2 => assumption); (case hu => first | units_room | decide); (case he => exact sorted_same (by assumption) (by assumption) (by assumption) (by assumption) (by assumption))))) | ((with_reducible show wpAny _ _ (compareOp PySem.CmpOp.NotEq (Value.ref _) (Value.ref _)) _ _ _); k_dflt (k_here; (with_reducible show wpAny _ _ (compareOp CmpOp.NotEq (Value.ref _) (Value.ref _)) _ _ _); k_dflt (refine' ne_same ?N ?hm ?hm2 ?hi ?hi2 ?hu ?_; (case N => k_asm); (case hm => k_mem); (case hm2 => k_mem); (case hi => assumption); (case hi2 => assumption); (case hu => units_room)))))) | ((with_reducible show wpAny _ _ (getMethod _ _ _) _ _ _); (first | ((with_reducible show wpAny _ _ (getMethod (Value.ref _) _ _) _ _ _); k_dflt ((rename WholeOk _ _ _ _ => hWz); (with_reducible show wpAny _ _ (getMethod (Value.ref _) (PySem.Str.ofString "count") _) _ _ _); k_here; k_dflt (refine' kl_method ?N ?m PySem.F.slot_list_count PySem.F.type_list_count ?_; (case N => k_asm); (case m => k_mem)))) | ((with_reducible show wpAny _ _ (getMethod (Value.ref _) _ _) _ _ _); k_dflt ((rename WholeOk _ _ _ _ => hWz); (with_reducible show wpAny _ _ (getMethod (Value.ref _) (PySem.Str.ofString "get") _) _ _ _); k_here; k_dflt (refine' d_method ?i ?N ?m ?D ?_; (case i => exact rfl); (case N => k_asm); (case D => assumption); (case m => k_mem)))))) | ((with_reducible show wpAny _ _ (call _ _) _ _ _); (first | ((with_reducible show wpAny _ _ (call (Value.type "enumerate") [Value.ref _]) _ _ _); k_dflt (k_here; k_dflt (refine' e_make ?F ?N ?hm ?_; (case F => k_asm); (case N => k_asm); (case hm => k_mem)); intro _ _ _ _ _ _ _ _ _ _ _)) | ((with_reducible show wpAny _ _ (call (Value.builtin "dict.get") _) _ _ _); k_dflt (k_here; k_dflt (refine' d_get ?N ?m ?D ?_; (case N => k_asm); (case D => assumption); (case m => k_mem)); intro _)) | ((with_reducible show wpAny _ _ (call (Value.builtin "list.count") _) _ _ _); k_dflt ((rename WholeOk _ _ _ _ => hWz); k_here; (with_reducible show wpAny _ _ (call (Value.builtin _) [Value.ref _, Value.int _ _]) _ _ _); k_dflt (refine count_list_ints (News.isList (by k_asm) (by k_mem)) (by assumption) ?_))) | ((with_reducible show wpAny _ _ (call (Value.builtin "sorted") _) _ _ _); k_dflt ((rename WholeOk _ _ _ _ => hWz); k_here; (with_reducible show wpAny _ _ (call (Value.builtin _) [Value.ref _]) _ _ _); k_dflt (refine' kso_sorted ?k1 ?k2 ?k3 ?k4 ?k5 ?_; (case k1 => k_asm); (case k2 => k_asm); (case k3 => exact News.isList (by k_asm) (by k_mem)); (case k4 => first | exact .cons _ _ (.cons _ _ (.cons _ _ .nil)) | assumption); (case k5 => exact Nat.le_of_ble_eq_true rfl)); intro _ _ _ _ _ _ _ l1 _ e' _ _ b'; clear b' e'; (try k_lt l1))) | ((with_reducible show wpAny _ _ (call (Value.ref _) _) _ _ _); k_dflt ((with_reducible show wpAny _ _ (call (Value.ref 56) [Value.ref _]) _ _ _); k_here; k_dflt (refine' Con.use ?k1 ?k2 ?k3 ?k4 ?k5 ?kK (count_con _ _ _ _ _ _ _ ?hD) ?kd ?ku ?kp ?_; (case k2 => k_asm); (case k4 => k_asm); (case k1 => k_asm); (case k3 => k_asm); (case k5 => k_asm); (case kK => first | exact rfl | assumption); (case hD => assumption); (case kp => k_mem); (case kd => first | ktr_room | decide); (case ku => first | ktr_units | decide); k_whole); refine el_int ?_; intro _ _ _ _ N9 _; (dsimp only [List.cons_append, List.nil_append] at N9); (try k_fold))) | ((with_reducible show wpAny _ _ (call (Value.type "int") _) _ _ _); k_dflt ((with_reducible show wpAny _ _ (call _ [Value.float _ _]) _ _ _); k_here; k_dflt (refine' int_ok ?hA ?hn ?hi ?_; (case hA => exact rfl); (case hn => assumption); (case hi => assumption)))) | ((with_reducible show wpAny _ _ (call (Value.builtin "min") _) _ _ _); k_dflt ((with_reducible show wpAny _ _ (call (Value.builtin _) [Value.float _ _, Value.float _ _]) _ _ _); k_here; k_dflt (refine' min2_K ?k1 ?k2 ?k3 ?_; (case k1 => exact rfl); (case k2 => k_asm); (case k3 => k_asm)); intro _ _ _ _ _)) | ((with_reducible show wpAny _ _ (call (Value.ref _) _) _ _ _); k_dflt ((with_reducible show wpAny _ _ (call (Value.ref 103) [Value.int _ _, Value.ref _, Value.int _ _]) _ _ _); k_here; k_dflt (refine' Con.use ?k1 ?k2 ?k3 ?k4 ?k5 ?kK (tally_con _ _ _ _ _ _ _ _ _ _ _ _ ?hst ?hg0 ?hg1 ?hmix) ?kd ?ku ?kp ?_; (case k2 => k_asm); (case k4 => k_asm); (case k1 => k_asm); (case k3 => k_asm); (case k5 => k_asm); (case kK => first | exact rfl | assumption); (case hmix => exact hmix_all (by assumption)); (case hst => assumption); (case hg0 => exact (fmod_b (by assumption) _).1); (case hg1 => exact (fmod_b (by assumption) _).2); (case kp => exact And.intro (by k_mem) (ent_mono (by assumption) (fun p9 hp9 => by k_mem))); (case kd => first | ktr_room | decide); (case ku => first | ktr_units | decide); k_whole); refine el_dict ?_; intro _ _ _ _ _ N9 ho9 _; (dsimp only [List.cons_append, List.nil_append] at N9); (have l9 := ord_of1 ho9); (try k_lt l9); (try k_fold))) | ((with_reducible show wpAny _ _ (call (Value.ref _) _) _ _ _); k_dflt ((with_reducible show wpAny _ _ (call (Value.ref 98) [Value.ref _]) _ _ _); k_here; k_dflt (refine' Con.use ?k1 ?k2 ?k3 ?k4 ?k5 ?kK (colour_con _ _ _ _ _ _ _ _ _ _ ?ok) ?kd ?ku (stat_mono ?p1 ?p2) ?_; (case k2 => k_asm); (case k4 => k_asm); (case k1 => k_asm); (case k3 => k_asm); (case k5 => k_asm); (case kK => first | exact rfl | assumption); (case p1 => assumption); (case p2 => first | exact sub2 (by k_mem) (by k_mem) | (intro _ _; k_mem)); (case ok => assumption); (case kd => first | ktr_room | decide); (case ku => first | ktr_units | decide); k_whole); refine el_tup ?_; intro _ _ _ _ _ _ _ N9 ho9; (dsimp only [List.cons_append, List.nil_append] at N9); (have l9 := ord_of1 ho9); (try k_lt l9); (try k_fold))) | ((with_reducible show wpAny _ _ (call (Value.ref _) _) _ _ _); k_dflt ((with_reducible show wpAny _ _ (call (Value.ref 42) [Value.ref _, Value.ref _]) _ _ _); k_here; k_dflt (refine' Con.use ?k1 ?k2 ?k3 ?k4 ?k5 ?kK (stats_con _ _ _ _ _ _ _ _ _ _ _ _ _ _ _ _ ?q1 ?q2) ?kd ?ku (And.intro (stat_mono ?p1 ?p2) (stat_mono ?p3 ?p4)) ?_; (case k2 => k_asm); (case k4 => k_asm); (case k1 => k_asm); (case k3 => k_asm); (case k5 => k_asm); (case kK => first | exact rfl | assumption); (case p1 => assumption); (case p3 => assumption); (case p2 => first | exact sub2 (by k_mem) (by k_mem) | (intro p9 hp9; k_mem)); (case p4 => first | exact sub2 (by k_mem) (by k_mem) | (intro _ _; k_mem)); (case q1 => first | assumption | exact mix2_len _ _ | exact mix3_len _ _ _ | (simp; done)); (case q2 => first | assumption | (simp; done)); (case kd => first | ktr_room | decide); (case ku => first | ktr_units | decide); k_whole); refine el_stat ?_; intro _ _ _ _ _ _ _ _ _ _ N9 _ _ _; (dsimp only [List.cons_append, List.nil_append] at N9); (try k_fold))) | ((with_reducible show wpAny _ _ (call (Value.ref _) _) _ _ _); k_dflt ((with_reducible show wpAny _ _ (call (Value.ref 91) [Value.int _ _, Value.int _ _]) _ _ _); k_here; k_dflt (refine' Con.use ?k1 ?k2 ?k3 ?k4 ?k5 ?kK (entry_con _ _ _ _ _ _ _ _ _ _ _ ?hok) ?kd ?ku ?kp ?_; (case k2 => k_asm); (case k4 => k_asm); (case k1 => k_asm); (case k3 => k_asm); (case k5 => k_asm); (case kK => first | exact rfl | assumption); (case kp => trivial); (case hok => assumption); (case kd => first | ktr_room | decide); (case ku => first | ktr_units | decide); k_whole); refine el_stat ?_; intro _ _ _ _ _ _ _ _ _ _ N9 _ _ _; (dsimp only [List.cons_append, List.nil_append] at N9); (try k_fold))) | ((with_reducible show wpAny _ _ (call (Value.builtin "len") _) _ _ _); k_dflt (k_here; (with_reducible show wpAny _ _ (call (Value.builtin "len") [Value.ref _]) _ _ _); k_dflt (refine' len_ints_fit ?k1 ?k2 ?k3 ?_; (case k1 => is_list); (case k2 => assumption); (case k3 => exact nine_len)))) | ((with_reducible show wpAny _ _ (call (Value.ref _) _) _ _ _); k_dflt ((with_reducible show wpAny _ _ (call (Value.ref 84) [Value.int _ _, Value.ref _]) _ _ _); k_here; k_dflt (refine' ConG.use ?k1 ?k2 ?k3 ?k4 ?k5 ?kK (due_con _ _ _ _ _ _ _ _ _ ?hn ?hcs ?h3 ?h100) ?kd ?ku ?kp ?_; (case k2 => k_asm); (case k4 => k_asm); (case kp => k_mem); (case hn => exact three_mod _); (case hcs => assumption); (case h3 => exact cells_3); (case h100 => exact cells_100); (case k1 => k_asm); (case k3 => k_asm); (case k5 => k_asm); (case kK => first | exact rfl | assumption); (case kd => first | ktr_room | decide); (case ku => first | ktr_units | decide); k_whole); intro _ _ _ _ _ _ _ N9 ho9 hout9; obtain ⟨P9, vals9, e91, e92, hP9⟩ := hout9; subst e91; subst e92; (dsimp only [List.cons_append, List.nil_append] at N9); (have l9 := ord_of1 ho9); (try k_lt l9); (try k_fold))) | ((with_reducible show wpAny _ _ (call (Value.ref _) _) _ _ _); k_dflt ((with_reducible show wpAny _ _ (call (Value.ref 77) [Value.int _ _, Value.ref _]) _ _ _); k_here; k_dflt (refine' ConG.use ?k1 ?k2 ?k3 ?k4 ?k5 ?kK (painted_con _ _ _ _ _ _ _ _ _ ?hn ?hcs ?h3 ?h100) ?kd ?ku ?kp ?_; (case k2 => k_asm); (case k4 => k_asm); (case kp => k_mem); (case hn => exact three_mod _); (case hcs => assumption); (case h3 => exact cells_3); (case h100 => exact cells_100); (case k1 => k_asm); (case k3 => k_asm); (case k5 => k_asm); (case kK => first | exact rfl | assumption); (case kd => first | ktr_room | decide); (case ku => first | ktr_units | decide); k_whole); intro _ _ _ _ _ _ _ N9 ho9 hout9; obtain ⟨P9, vals9, e91, e92, hP9⟩ := hout9; subst e91; subst e92; (dsimp only [List.cons_append, List.nil_append] at N9); (have l9 := ord_of1 ho9); (try k_lt l9); (try k_fold))))) | ((with_reducible show LCg.CompEnd _ _ _ _ _ _ _ _ _ _ _ _ _ _); k_dflt ((rename WholeOk _ _ _ _ => hWz); (rename News _ _ _ _ => N9); (rename Fr _ _ _ _ => F9); refine LCg.CompEnd.intro F9 N9 _ (fun _ hp => hp) ?off ?src ?_; (case off => (simp only [LCg.Off3, and_true]; assumption)); (case src => first | exact True.intro | exact Or.inr ⟨_, by k_mem, rfl, _, rfl⟩ | exact Or.inl (by assumption)))) | ((with_reducible show wpAny _ _ (exec _ _) _ _ _); (first | ((with_reducible show wpAny _ _ (exec (PySem.Stmt.For (PySem.Expr.Name _ _) (PySem.Expr.Name _ _) _ _ _) _) _ _ _); k_dflt (k_here; (with_reducible show wpAny _ _ (exec (Stmt.For (Expr.Name _ _) (Expr.Name _ _) _ _ _) _) _ _ _); (rename Fr _ _ _ _ => F9); k_dflt (refine for_m F9 (by rfl) (by rfl) ?_))) | ((with_reducible show wpAny _ _ (exec (PySem.Stmt.Assign [_] (PySem.Expr.ListComp _ _ _ _) _) _) _ _ _); k_dflt ((with_reducible show wpAny _ _ (exec (Stmt.Assign [Expr.Name _ _] (Expr.ListComp _ [⟨Expr.Tuple [Expr.Name _ _, Expr.Name _ _] _ _, _, [], _⟩] _ _) _) _) _ _ _); k_here; k_dflt (refine ecomp_assign (F₀ := by k_asm) (by rfl) (by with_unfolding_all rfl) (by with_unfolding_all rfl) (by decide) (by rfl) (by decide) (by rfl) (by rfl) (by decide) (by rfl) (by rfl) ?_))))) | walk1 | (dsimp only; walk1) | (leave1; walk_say "STEP leave1"; try dsimp only) | fail "no step"))
  rename_i hltE
  (rename World => w)
  (rename IsEnum _ _ _ _ _ => he1)
  (rename Heap.IsListIter _ _ _ _ => hit1)
  (rename Fr _ _ _ _ => F1)
  (rename News _ _ _ _ => N1)
  (rename (∀ q : Addr × Obj, q ∈ _ → q.1 < _) => hl1)
  (rename (_ = Data.cell (some (Value.int _ _))) => hc1)
  (rename IntsAre _ (paintF _ _) => hP2)
  clear hP2
  (rename IntsAre _ (paintF _ _) => hP1)
  (rename IntsAre _ (List.map _ (List.take 9 _) ++ List.drop _ _) => hC1)
  refine (show (let P9 : Prop := _; P9) from ?_)
  intro P9
  obtain ⟨n, tn, cs, ps, hcell, hst, hps, hin3, hplen, hcs, hcl⟩ := law_gen hc1 hP1 hC1 cells_3
  clear hc1 hP1 hC1
  have hn0 : 0 < n := by omega
  have hvl := hps.length
  refine ⟨_, _, _, _, _, _, _, _, JEn w ps _, rfl, ?ahh, F1, N1, he1, hit1, Nat.ne_of_lt hltE, fun q hq => ⟨Nat.ne_of_lt (Nat.lt_trans (hl1 q hq) hltE), Nat.ne_of_lt (hl1 q hq)⟩, (by rw [hvl, hplen]; omega), JEn.start, JEn.mem (.tail _ (.head _)), ?astep, ?afin⟩
  (case ahh => exact rfl)
  · rintro i v t C oC D m₂ oe oi ys news' h tk E' hv ⟨tl, rfl, hlen, hent⟩ hNs ha hb F2 N2 hoff
    (try ((with_reducible show wpAny _ _ _ _ _ _); k_fold)); (try (with_reducible refine any_tk ?_; intro _))
    clear F1 N1
    obtain ⟨c, tc, rfl, hc⟩ := ints_back hps hv
    have hok := entry_ok (hin3 c (List.mem_of_getElem? hc))
    (try ((with_reducible show wpAny _ _ _ _ _ _); k_fold)); (try (with_reducible refine any_tk ?_; intro _)); (repeat' (first | (k_unfold; (try dsimp only)) | (k_end; wrow_close) | ((with_reducible show wpAny _ _ (execs (_ :: _) _) _ _ _); (with_reducible refine any_tk ?_); intro _) | ((with_reducible show wpAny _ _ (subscriptTail _ _ _ _) _ _ _); (first | ((with_reducible show wpAny _ _ (subscriptTail (PySem.Expr.List _ _) (PySem.Expr.Slice _ _ _ _) (Value.ref _) (Value.ref _)) _ _ _); k_dflt (k_here; (with_reducible show wpAny _ _ (subscriptTail _ (PySem.Expr.Slice (some _) none none _) (Value.ref _) (Value.ref _)) _ _ _); k_dflt (refine kba_turn (value' := PySem.Expr.Name (PySem.Str.ofString "_") ⟨0, 0, 0, 0⟩) (fun _ => rfl) ?_))) | ((with_reducible show wpAny _ _ (subscriptTail (PySem.Expr.Name _ _) (PySem.Expr.Constant _ _ _) (Value.ref _) (Value.int _ _)) _ _ _); k_dflt ((rename WholeOk _ _ _ _ => hWz); k_here; (with_reducible show wpAny _ _ (subscriptTail _ _ (Value.ref _) (Value.int 2 _)) _ _ _); k_dflt (refine' tri2 ?N ?hm ?hi ?_; (case N => k_asm); (case hm => k_mem); (case hi => with_reducible assumption)); intro _)) | ((with_reducible show wpAny _ _ (subscriptTail (PySem.Expr.Name _ _) (PySem.Expr.Constant _ _ _) (Value.ref _) (Value.int _ _)) _ _ _); k_dflt ((rename WholeOk _ _ _ _ => hWz); k_here; (with_reducible show wpAny _ _ (subscriptTail _ _ (Value.ref _) (Value.int 1 _)) _ _ _); k_dflt (refine' tri1 ?N ?hm ?hi ?_; (case N => k_asm); (case hm => k_mem); (case hi => with_reducible assumption)); intro _)) | ((with_reducible show wpAny _ _ (subscriptTail (PySem.Expr.Name _ _) (PySem.Expr.Constant _ _ _) (Value.ref _) (Value.int _ _)) _ _ _); k_dflt ((rename WholeOk _ _ _ _ => hWz); k_here; (with_reducible show wpAny _ _ (subscriptTail _ _ (Value.ref _) (Value.int 0 _)) _ _ _); k_dflt (refine' tri0 ?N ?hm ?hi ?_; (case N => k_asm); (case hm => k_mem); (case hi => with_reducible assumption)); intro _)) | ((with_reducible show wpAny _ _ (subscriptTail (PySem.Expr.Name _ _) (PySem.Expr.Constant _ _ _) (Value.ref _) (Value.int _ _)) _ _ _); k_dflt (k_here; (with_reducible show wpAny _ _ (subscriptTail _ _ (Value.ref _) (Value.int _ _)) _ _ _); (refine' tup_item ?N ?hm ?h0 ?h1 ?hj ?hx ?_; (case N => k_asm); (case hm => k_mem); (case h0 => decide); (case h1 => decide); (case hj => rfl); (case hx => rfl)))) | ((with_reducible show wpAny _ _ (subscriptTail (PySem.Expr.Name _ _) (PySem.Expr.Slice _ _ _ _) (Value.ref _) (Value.ref _)) _ _ _); k_dflt (k_here; (with_reducible show wpAny _ _ (subscriptTail _ (PySem.Expr.Slice (some _) none none _) (Value.ref _) (Value.ref _)) _ _ _); (k_dflt (refine' slice_from ?F ?N ?hm ?hi ?hy ?hz ?_ ?hs ?ht; (case F => k_asm); (case N => k_asm); (case hm => k_mem); (case hi => exact .cons _ _ (.cons _ _ (.cons _ _ .nil))); (case hy => omega); (case hz => decide); (case hs => with_unfolding_all rfl); (case ht => kmk_pure)); intro _ _ _ _ _ l1 _; (try k_lt l1)))) | ((with_reducible show wpAny _ _ (subscriptTail (PySem.Expr.Name _ _) (PySem.Expr.Constant _ _ _) (Value.ref _) (Value.int _ _)) _ _ _); k_dflt (k_here; (with_reducible show wpAny _ _ (subscriptTail _ _ (Value.ref _) (Value.int _ _)) _ _ _); k_dflt (refine' ints_item ?N ?hm ?hi ?h0 ?h1 ?h2 ?_; (case N => k_asm); (case hm => k_mem); (case hi => assumption); (case h0 => decide); (case h2 => decide); (case h1 => first | exact cells_pos | omega)); intro _)))) | ((with_reducible show wpAny _ _ (binaryOp _ _ _) _ _ _); (first | ((with_reducible show wpAny _ _ (binaryOp PySem.Operator.Mult (Value.int _ _) (Value.int _ _)) _ _ _); k_dflt ((rename WholeOk _ _ _ _ => hWz); k_here; (with_reducible show wpAny _ _ (binaryOp _ (Value.int (3 : Int) _) (Value.int _ _)) _ _ _); (with_reducible refine mul_lit ?kb1 ?_); (case kb1 => decide))) | ((with_reducible show wpAny _ _ (binaryOp PySem.Operator.Mult (Value.int _ _) (Value.int _ _)) _ _ _); k_dflt ((rename WholeOk _ _ _ _ => hWz); k_here; (with_reducible refine mul_by ?kb1 ?_); (case kb1 => with_reducible assumption))) | ((with_reducible show wpAny _ _ (binaryOp PySem.Operator.Pow (Value.int _ _) (Value.int _ _)) _ _ _); k_dflt ((rename WholeOk _ _ _ _ => hWz); k_here; (with_reducible refine pow3 ?kb1 ?_); (case kb1 => with_reducible assumption))))) | ((with_reducible show wpAny _ _ (compareOp _ _ _) _ _ _); (first | ((with_reducible show wpAny _ _ (compareOp PySem.CmpOp.Eq (Value.int _ _) (Value.int _ _)) _ _ _); k_dflt ((rename WholeOk _ _ _ _ => hWz); k_here; (with_reducible refine eq_int_eq ?kb1 ?_); (case kb1 => with_reducible assumption))) | ((with_reducible show wpAny _ _ (compareOp PySem.CmpOp.NotEq (Value.int _ _) (Value.int _ _)) _ _ _); k_dflt ((rename WholeOk _ _ _ _ => hWz); k_here; (with_reducible refine ne_int_eq ?kb1 ?_); (case kb1 => with_reducible assumption))) | ((with_reducible show wpAny _ _ (compareOp PySem.CmpOp.NotEq (Value.ref _) (Value.ref _)) _ _ _); k_dflt ((rename WholeOk _ _ _ _ => hWz); k_here; (with_reducible show wpAny _ _ (compareOp CmpOp.NotEq (Value.ref _) (Value.ref _)) _ _ _); k_dflt (refine' ne_eq9 ?N ?hm ?hm2 ?hi ?hi2 ?hu ?he ?_; (case N => k_asm); (case hm => k_mem); (case hm2 => k_mem); (case hi => assumption); (case hi2 => assumption); (case hu => first | units_room | decide); (case he => exact sorted_same (by assumption) (by assumption) (by assumption) (by assumption) (by assumption))))) | ((with_reducible show wpAny _ _ (compareOp PySem.CmpOp.NotEq (Value.ref _) (Value.ref _)) _ _ _); k_dflt (k_here; (with_reducible show wpAny _ _ (compareOp CmpOp.NotEq (Value.ref _) (Value.ref _)) _ _ _); k_dflt (refine' ne_same ?N ?hm ?hm2 ?hi ?hi2 ?hu ?_; (case N => k_asm); (case hm => k_mem); (case hm2 => k_mem); (case hi => assumption); (case hi2 => assumption); (case hu => units_room)))))) | ((with_reducible show wpAny _ _ (getMethod _ _ _) _ _ _); (first | ((with_reducible show wpAny _ _ (getMethod (Value.ref _) _ _) _ _ _); k_dflt ((rename WholeOk _ _ _ _ => hWz); (with_reducible show wpAny _ _ (getMethod (Value.ref _) (PySem.Str.ofString "count") _) _ _ _); k_here; k_dflt (refine' kl_method ?N ?m PySem.F.slot_list_count PySem.F.type_list_count ?_; (case N => k_asm); (case m => k_mem)))) | ((with_reducible show wpAny _ _ (getMethod (Value.ref _) _ _) _ _ _); k_dflt ((rename WholeOk _ _ _ _ => hWz); (with_reducible show wpAny _ _ (getMethod (Value.ref _) (PySem.Str.ofString "get") _) _ _ _); k_here; k_dflt (refine' d_method ?i ?N ?m ?D ?_; (case i => exact rfl); (case N => k_asm); (case D => assumption); (case m => k_mem)))))) | ((with_reducible show wpAny _ _ (call _ _) _ _ _); (first | ((with_reducible show wpAny _ _ (call (Value.type "enumerate") [Value.ref _]) _ _ _); k_dflt (k_here; k_dflt (refine' e_make ?F ?N ?hm ?_; (case F => k_asm); (case N => k_asm); (case hm => k_mem)); intro _ _ _ _ _ _ _ _ _ _ _)) | ((with_reducible show wpAny _ _ (call (Value.builtin "dict.get") _) _ _ _); k_dflt (k_here; k_dflt (refine' d_get ?N ?m ?D ?_; (case N => k_asm); (case D => assumption); (case m => k_mem)); intro _)) | ((with_reducible show wpAny _ _ (call (Value.builtin "list.count") _) _ _ _); k_dflt ((rename WholeOk _ _ _ _ => hWz); k_here; (with_reducible show wpAny _ _ (call (Value.builtin _) [Value.ref _, Value.int _ _]) _ _ _); k_dflt (refine count_list_ints (News.isList (by k_asm) (by k_mem)) (by assumption) ?_))) | ((with_reducible show wpAny _ _ (call (Value.builtin "sorted") _) _ _ _); k_dflt ((rename WholeOk _ _ _ _ => hWz); k_here; (with_reducible show wpAny _ _ (call (Value.builtin _) [Value.ref _]) _ _ _); k_dflt (refine' kso_sorted ?k1 ?k2 ?k3 ?k4 ?k5 ?_; (case k1 => k_asm); (case k2 => k_asm); (case k3 => exact News.isList (by k_asm) (by k_mem)); (case k4 => first | exact .cons _ _ (.cons _ _ (.cons _ _ .nil)) | assumption); (case k5 => exact Nat.le_of_ble_eq_true rfl)); intro _ _ _ _ _ _ _ l1 _ e' _ _ b'; clear b' e'; (try k_lt l1))) | ((with_reducible show wpAny _ _ (call (Value.ref _) _) _ _ _); k_dflt ((with_reducible show wpAny _ _ (call (Value.ref 56) [Value.ref _]) _ _ _); k_here; k_dflt (refine' Con.use ?k1 ?k2 ?k3 ?k4 ?k5 ?kK (count_con _ _ _ _ _ _ _ ?hD) ?kd ?ku ?kp ?_; (case k2 => k_asm); (case k4 => k_asm); (case k1 => k_asm); (case k3 => k_asm); (case k5 => k_asm); (case kK => first | exact rfl | assumption); (case hD => assumption); (case kp => k_mem); (case kd => first | ktr_room | decide); (case ku => first | ktr_units | decide); k_whole); refine el_int ?_; intro _ _ _ _ N9 _; (dsimp only [List.cons_append, List.nil_append] at N9); (try k_fold))) | ((with_reducible show wpAny _ _ (call (Value.type "int") _) _ _ _); k_dflt ((with_reducible show wpAny _ _ (call _ [Value.float _ _]) _ _ _); k_here; k_dflt (refine' int_ok ?hA ?hn ?hi ?_; (case hA => exact rfl); (case hn => assumption); (case hi => assumption)))) | ((with_reducible show wpAny _ _ (call (Value.builtin "min") _) _ _ _); k_dflt ((with_reducible show wpAny _ _ (call (Value.builtin _) [Value.float _ _, Value.float _ _]) _ _ _); k_here; k_dflt (refine' min2_K ?k1 ?k2 ?k3 ?_; (case k1 => exact rfl); (case k2 => k_asm); (case k3 => k_asm)); intro _ _ _ _ _)) | ((with_reducible show wpAny _ _ (call (Value.ref _) _) _ _ _); k_dflt ((with_reducible show wpAny _ _ (call (Value.ref 103) [Value.int _ _, Value.ref _, Value.int _ _]) _ _ _); k_here; k_dflt (refine' Con.use ?k1 ?k2 ?k3 ?k4 ?k5 ?kK (tally_con _ _ _ _ _ _ _ _ _ _ _ _ ?hst ?hg0 ?hg1 ?hmix) ?kd ?ku ?kp ?_; (case k2 => k_asm); (case k4 => k_asm); (case k1 => k_asm); (case k3 => k_asm); (case k5 => k_asm); (case kK => first | exact rfl | assumption); (case hmix => exact hmix_all (by assumption)); (case hst => assumption); (case hg0 => exact (fmod_b (by assumption) _).1); (case hg1 => exact (fmod_b (by assumption) _).2); (case kp => exact And.intro (by k_mem) (ent_mono (by assumption) (fun p9 hp9 => by k_mem))); (case kd => first | ktr_room | decide); (case ku => first | ktr_units | decide); k_whole); refine el_dict ?_; intro _ _ _ _ _ N9 ho9 _; (dsimp only [List.cons_append, List.nil_append] at N9); (have l9 := ord_of1 ho9); (try k_lt l9); (try k_fold))) | ((with_reducible show wpAny _ _ (call (Value.ref _) _) _ _ _); k_dflt ((with_reducible show wpAny _ _ (call (Value.ref 98) [Value.ref _]) _ _ _); k_here; k_dflt (refine' Con.use ?k1 ?k2 ?k3 ?k4 ?k5 ?kK (colour_con _ _ _ _ _ _ _ _ _ _ ?ok) ?kd ?ku (stat_mono ?p1 ?p2) ?_; (case k2 => k_asm); (case k4 => k_asm); (case k1 => k_asm); (case k3 => k_asm); (case k5 => k_asm); (case kK => first | exact rfl | assumption); (case p1 => assumption); (case p2 => first | exact sub2 (by k_mem) (by k_mem) | (intro _ _; k_mem)); (case ok => assumption); (case kd => first | ktr_room | decide); (case ku => first | ktr_units | decide); k_whole); refine el_tup ?_; intro _ _ _ _ _ _ _ N9 ho9; (dsimp only [List.cons_append, List.nil_append] at N9); (have l9 := ord_of1 ho9); (try k_lt l9); (try k_fold))) | ((with_reducible show wpAny _ _ (call (Value.ref _) _) _ _ _); k_dflt ((with_reducible show wpAny _ _ (call (Value.ref 42) [Value.ref _, Value.ref _]) _ _ _); k_here; k_dflt (refine' Con.use ?k1 ?k2 ?k3 ?k4 ?k5 ?kK (stats_con _ _ _ _ _ _ _ _ _ _ _ _ _ _ _ _ ?q1 ?q2) ?kd ?ku (And.intro (stat_mono ?p1 ?p2) (stat_mono ?p3 ?p4)) ?_; (case k2 => k_asm); (case k4 => k_asm); (case k1 => k_asm); (case k3 => k_asm); (case k5 => k_asm); (case kK => first | exact rfl | assumption); (case p1 => assumption); (case p3 => assumption); (case p2 => first | exact sub2 (by k_mem) (by k_mem) | (intro p9 hp9; k_mem)); (case p4 => first | exact sub2 (by k_mem) (by k_mem) | (intro _ _; k_mem)); (case q1 => first | assumption | exact mix2_len _ _ | exact mix3_len _ _ _ | (simp; done)); (case q2 => first | assumption | (simp; done)); (case kd => first | ktr_room | decide); (case ku => first | ktr_units | decide); k_whole); refine el_stat ?_; intro _ _ _ _ _ _ _ _ _ _ N9 _ _ _; (dsimp only [List.cons_append, List.nil_append] at N9); (try k_fold))) | ((with_reducible show wpAny _ _ (call (Value.ref _) _) _ _ _); k_dflt ((with_reducible show wpAny _ _ (call (Value.ref 91) [Value.int _ _, Value.int _ _]) _ _ _); k_here; k_dflt (refine' Con.use ?k1 ?k2 ?k3 ?k4 ?k5 ?kK (entry_con _ _ _ _ _ _ _ _ _ _ _ ?hok) ?kd ?ku ?kp ?_; (case k2 => k_asm); (case k4 => k_asm); (case k1 => k_asm); (case k3 => k_asm); (case k5 => k_asm); (case kK => first | exact rfl | assumption); (case kp => trivial); (case hok => assumption); (case kd => first | ktr_room | decide); (case ku => first | ktr_units | decide); k_whole); refine el_stat ?_; intro _ _ _ _ _ _ _ _ _ _ N9 _ _ _; (dsimp only [List.cons_append, List.nil_append] at N9); (try k_fold))) | ((with_reducible show wpAny _ _ (call (Value.builtin "len") _) _ _ _); k_dflt (k_here; (with_reducible show wpAny _ _ (call (Value.builtin "len") [Value.ref _]) _ _ _); k_dflt (refine' len_ints_fit ?k1 ?k2 ?k3 ?_; (case k1 => is_list); (case k2 => assumption); (case k3 => exact nine_len)))) | ((with_reducible show wpAny _ _ (call (Value.ref _) _) _ _ _); k_dflt ((with_reducible show wpAny _ _ (call (Value.ref 84) [Value.int _ _, Value.ref _]) _ _ _); k_here; k_dflt (refine' ConG.use ?k1 ?k2 ?k3 ?k4 ?k5 ?kK (due_con _ _ _ _ _ _ _ _ _ ?hn ?hcs ?h3 ?h100) ?kd ?ku ?kp ?_; (case k2 => k_asm); (case k4 => k_asm); (case kp => k_mem); (case hn => exact three_mod _); (case hcs => assumption); (case h3 => exact cells_3); (case h100 => exact cells_100); (case k1 => k_asm); (case k3 => k_asm); (case k5 => k_asm); (case kK => first | exact rfl | assumption); (case kd => first | ktr_room | decide); (case ku => first | ktr_units | decide); k_whole); intro _ _ _ _ _ _ _ N9 ho9 hout9; obtain ⟨P9, vals9, e91, e92, hP9⟩ := hout9; subst e91; subst e92; (dsimp only [List.cons_append, List.nil_append] at N9); (have l9 := ord_of1 ho9); (try k_lt l9); (try k_fold))) | ((with_reducible show wpAny _ _ (call (Value.ref _) _) _ _ _); k_dflt ((with_reducible show wpAny _ _ (call (Value.ref 77) [Value.int _ _, Value.ref _]) _ _ _); k_here; k_dflt (refine' ConG.use ?k1 ?k2 ?k3 ?k4 ?k5 ?kK (painted_con _ _ _ _ _ _ _ _ _ ?hn ?hcs ?h3 ?h100) ?kd ?ku ?kp ?_; (case k2 => k_asm); (case k4 => k_asm); (case kp => k_mem); (case hn => exact three_mod _); (case hcs => assumption); (case h3 => exact cells_3); (case h100 => exact cells_100); (case k1 => k_asm); (case k3 => k_asm); (case k5 => k_asm); (case kK => first | exact rfl | assumption); (case kd => first | ktr_room | decide); (case ku => first | ktr_units | decide); k_whole); intro _ _ _ _ _ _ _ N9 ho9 hout9; obtain ⟨P9, vals9, e91, e92, hP9⟩ := hout9; subst e91; subst e92; (dsimp only [List.cons_append, List.nil_append] at N9); (have l9 := ord_of1 ho9); (try k_lt l9); (try k_fold))))) | ((with_reducible show LCg.CompEnd _ _ _ _ _ _ _ _ _ _ _ _ _ _); k_dflt ((rename WholeOk _ _ _ _ => hWz); (rename News _ _ _ _ => N9); (rename Fr _ _ _ _ => F9); refine LCg.CompEnd.intro F9 N9 _ (fun _ hp => hp) ?off ?src ?_; (case off => (simp only [LCg.Off3, and_true]; assumption)); (case src => first | exact True.intro | exact Or.inr ⟨_, by k_mem, rfl, _, rfl⟩ | exact Or.inl (by assumption)))) | ((with_reducible show wpAny _ _ (exec _ _) _ _ _); (first | ((with_reducible show wpAny _ _ (exec (PySem.Stmt.For (PySem.Expr.Name _ _) (PySem.Expr.Name _ _) _ _ _) _) _ _ _); k_dflt (k_here; (with_reducible show wpAny _ _ (exec (Stmt.For (Expr.Name _ _) (Expr.Name _ _) _ _ _) _) _ _ _); (rename Fr _ _ _ _ => F9); k_dflt (refine for_m F9 (by rfl) (by rfl) ?_))) | ((with_reducible show wpAny _ _ (exec (PySem.Stmt.Assign [_] (PySem.Expr.ListComp _ _ _ _) _) _) _ _ _); k_dflt ((with_reducible show wpAny _ _ (exec (Stmt.Assign [Expr.Name _ _] (Expr.ListComp _ [⟨Expr.Tuple [Expr.Name _ _, Expr.Name _ _] _ _, _, [], _⟩] _ _) _) _) _ _ _); k_here; k_dflt (refine ecomp_assign (F₀ := by k_asm) (by rfl) (by with_unfolding_all rfl) (by with_unfolding_all rfl) (by decide) (by rfl) (by decide) (by rfl) (by rfl) (by decide) (by rfl) (by rfl) ?_))))) | walk1 | (dsimp only; walk1) | (leave1; walk_say "STEP leave1"; try dsimp only) | fail "no step"))
    (rename Fr _ _ _ _ => F3)
    (rename News _ _ _ _ => N3)
    (rename (∀ q : Addr × Obj, q ∈ _ → ∀ p : Addr × Obj, p ∈ [(_, _), (_, _)] → _) => ho)
    (rename StatIn _ _ _ _ _ _ _ _ => hS)
    exact EElt.intro F3 (news_mid N3) (off_new hoff ho) (JEn.step hc hlen hent hS)
  · rintro g ys news' ⟨tl, rfl, hlen, hent⟩
    (try ((with_reducible show wpAny _ _ _ _ _ _); k_fold)); (try (with_reducible refine any_tk ?_; intro _))
    unfold LCg.FinA
    intro D h tk F3 N3 o1
    have N4 := news_pick N3
    clear N3 o1 F1 N1
    have hent' := ent_int (hvl.trans hplen) hent
    (try ((with_reducible show wpAny _ _ _ _ _ _); k_fold)); (try (with_reducible refine any_tk ?_; intro _)); (repeat' (first | (k_unfold; (try dsimp only)) | (k_end; wrow_close) | ((with_reducible show wpAny _ _ (execs (_ :: _) _) _ _ _); (with_reducible refine any_tk ?_); intro _) | ((with_reducible show wpAny _ _ (subscriptTail _ _ _ _) _ _ _); (first | ((with_reducible show wpAny _ _ (subscriptTail (PySem.Expr.List _ _) (PySem.Expr.Slice _ _ _ _) (Value.ref _) (Value.ref _)) _ _ _); k_dflt (k_here; (with_reducible show wpAny _ _ (subscriptTail _ (PySem.Expr.Slice (some _) none none _) (Value.ref _) (Value.ref _)) _ _ _); k_dflt (refine kba_turn (value' := PySem.Expr.Name (PySem.Str.ofString "_") ⟨0, 0, 0, 0⟩) (fun _ => rfl) ?_))) | ((with_reducible show wpAny _ _ (subscriptTail (PySem.Expr.Name _ _) (PySem.Expr.Constant _ _ _) (Value.ref _) (Value.int _ _)) _ _ _); k_dflt ((rename WholeOk _ _ _ _ => hWz); k_here; (with_reducible show wpAny _ _ (subscriptTail _ _ (Value.ref _) (Value.int 2 _)) _ _ _); k_dflt (refine' tri2 ?N ?hm ?hi ?_; (case N => k_asm); (case hm => k_mem); (case hi => with_reducible assumption)); intro _)) | ((with_reducible show wpAny _ _ (subscriptTail (PySem.Expr.Name _ _) (PySem.Expr.Constant _ _ _) (Value.ref _) (Value.int _ _)) _ _ _); k_dflt ((rename WholeOk _ _ _ _ => hWz); k_here; (with_reducible show wpAny _ _ (subscriptTail _ _ (Value.ref _) (Value.int 1 _)) _ _ _); k_dflt (refine' tri1 ?N ?hm ?hi ?_; (case N => k_asm); (case hm => k_mem); (case hi => with_reducible assumption)); intro _)) | ((with_reducible show wpAny _ _ (subscriptTail (PySem.Expr.Name _ _) (PySem.Expr.Constant _ _ _) (Value.ref _) (Value.int _ _)) _ _ _); k_dflt ((rename WholeOk _ _ _ _ => hWz); k_here; (with_reducible show wpAny _ _ (subscriptTail _ _ (Value.ref _) (Value.int 0 _)) _ _ _); k_dflt (refine' tri0 ?N ?hm ?hi ?_; (case N => k_asm); (case hm => k_mem); (case hi => with_reducible assumption)); intro _)) | ((with_reducible show wpAny _ _ (subscriptTail (PySem.Expr.Name _ _) (PySem.Expr.Constant _ _ _) (Value.ref _) (Value.int _ _)) _ _ _); k_dflt (k_here; (with_reducible show wpAny _ _ (subscriptTail _ _ (Value.ref _) (Value.int _ _)) _ _ _); (refine' tup_item ?N ?hm ?h0 ?h1 ?hj ?hx ?_; (case N => k_asm); (case hm => k_mem); (case h0 => decide); (case h1 => decide); (case hj => rfl); (case hx => rfl)))) | ((with_reducible show wpAny _ _ (subscriptTail (PySem.Expr.Name _ _) (PySem.Expr.Slice _ _ _ _) (Value.ref _) (Value.ref _)) _ _ _); k_dflt (k_here; (with_reducible show wpAny _ _ (subscriptTail _ (PySem.Expr.Slice (some _) none none _) (Value.ref _) (Value.ref _)) _ _ _); (k_dflt (refine' slice_from ?F ?N ?hm ?hi ?hy ?hz ?_ ?hs ?ht; (case F => k_asm); (case N => k_asm); (case hm => k_mem); (case hi => exact .cons _ _ (.cons _ _ (.cons _ _ .nil))); (case hy => omega); (case hz => decide); (case hs => with_unfolding_all rfl); (case ht => kmk_pure)); intro _ _ _ _ _ l1 _; (try k_lt l1)))) | ((with_reducible show wpAny _ _ (subscriptTail (PySem.Expr.Name _ _) (PySem.Expr.Constant _ _ _) (Value.ref _) (Value.int _ _)) _ _ _); k_dflt (k_here; (with_reducible show wpAny _ _ (subscriptTail _ _ (Value.ref _) (Value.int _ _)) _ _ _); k_dflt (refine' ints_item ?N ?hm ?hi ?h0 ?h1 ?h2 ?_; (case N => k_asm); (case hm => k_mem); (case hi => assumption); (case h0 => decide); (case h2 => decide); (case h1 => first | exact cells_pos | omega)); intro _)))) | ((with_reducible show wpAny _ _ (binaryOp _ _ _) _ _ _); (first | ((with_reducible show wpAny _ _ (binaryOp PySem.Operator.Mult (Value.int _ _) (Value.int _ _)) _ _ _); k_dflt ((rename WholeOk _ _ _ _ => hWz); k_here; (with_reducible show wpAny _ _ (binaryOp _ (Value.int (3 : Int) _) (Value.int _ _)) _ _ _); (with_reducible refine mul_lit ?kb1 ?_); (case kb1 => decide))) | ((with_reducible show wpAny _ _ (binaryOp PySem.Operator.Mult (Value.int _ _) (Value.int _ _)) _ _ _); k_dflt ((rename WholeOk _ _ _ _ => hWz); k_here; (with_reducible refine mul_by ?kb1 ?_); (case kb1 => with_reducible assumption))) | ((with_reducible show wpAny _ _ (binaryOp PySem.Operator.Pow (Value.int _ _) (Value.int _ _)) _ _ _); k_dflt ((rename WholeOk _ _ _ _ => hWz); k_here; (with_reducible refine pow3 ?kb1 ?_); (case kb1 => with_reducible assumption))))) | ((with_reducible show wpAny _ _ (compareOp _ _ _) _ _ _); (first | ((with_reducible show wpAny _ _ (compareOp PySem.CmpOp.Eq (Value.int _ _) (Value.int _ _)) _ _ _); k_dflt ((rename WholeOk _ _ _ _ => hWz); k_here; (with_reducible refine eq_int_eq ?kb1 ?_); (case kb1 => with_reducible assumption))) | ((with_reducible show wpAny _ _ (compareOp PySem.CmpOp.NotEq (Value.int _ _) (Value.int _ _)) _ _ _); k_dflt ((rename WholeOk _ _ _ _ => hWz); k_here; (with_reducible refine ne_int_eq ?kb1 ?_); (case kb1 => with_reducible assumption))) | ((with_reducible show wpAny _ _ (compareOp PySem.CmpOp.NotEq (Value.ref _) (Value.ref _)) _ _ _); k_dflt ((rename WholeOk _ _ _ _ => hWz); k_here; (with_reducible show wpAny _ _ (compareOp CmpOp.NotEq (Value.ref _) (Value.ref _)) _ _ _); k_dflt (refine' ne_eq9 ?N ?hm ?hm2 ?hi ?hi2 ?hu ?he ?_; (case N => k_asm); (case hm => k_mem); (case hm2 => k_mem); (case hi => assumption); (case hi2 => assumption); (case hu => first | units_room | decide); (case he => exact sorted_same (by assumption) (by assumption) (by assumption) (by assumption) (by assumption))))) | ((with_reducible show wpAny _ _ (compareOp PySem.CmpOp.NotEq (Value.ref _) (Value.ref _)) _ _ _); k_dflt (k_here; (with_reducible show wpAny _ _ (compareOp CmpOp.NotEq (Value.ref _) (Value.ref _)) _ _ _); k_dflt (refine' ne_same ?N ?hm ?hm2 ?hi ?hi2 ?hu ?_; (case N => k_asm); (case hm => k_mem); (case hm2 => k_mem); (case hi => assumption); (case hi2 => assumption); (case hu => units_room)))))) | ((with_reducible show wpAny _ _ (getMethod _ _ _) _ _ _); (first | ((with_reducible show wpAny _ _ (getMethod (Value.ref _) _ _) _ _ _); k_dflt ((rename WholeOk _ _ _ _ => hWz); (with_reducible show wpAny _ _ (getMethod (Value.ref _) (PySem.Str.ofString "count") _) _ _ _); k_here; k_dflt (refine' kl_method ?N ?m PySem.F.slot_list_count PySem.F.type_list_count ?_; (case N => k_asm); (case m => k_mem)))) | ((with_reducible show wpAny _ _ (getMethod (Value.ref _) _ _) _ _ _); k_dflt ((rename WholeOk _ _ _ _ => hWz); (with_reducible show wpAny _ _ (getMethod (Value.ref _) (PySem.Str.ofString "get") _) _ _ _); k_here; k_dflt (refine' d_method ?i ?N ?m ?D ?_; (case i => exact rfl); (case N => k_asm); (case D => assumption); (case m => k_mem)))))) | ((with_reducible show wpAny _ _ (call _ _) _ _ _); (first | ((with_reducible show wpAny _ _ (call (Value.type "enumerate") [Value.ref _]) _ _ _); k_dflt (k_here; k_dflt (refine' e_make ?F ?N ?hm ?_; (case F => k_asm); (case N => k_asm); (case hm => k_mem)); intro _ _ _ _ _ _ _ _ _ _ _)) | ((with_reducible show wpAny _ _ (call (Value.builtin "dict.get") _) _ _ _); k_dflt (k_here; k_dflt (refine' d_get ?N ?m ?D ?_; (case N => k_asm); (case D => assumption); (case m => k_mem)); intro _)) | ((with_reducible show wpAny _ _ (call (Value.builtin "list.count") _) _ _ _); k_dflt ((rename WholeOk _ _ _ _ => hWz); k_here; (with_reducible show wpAny _ _ (call (Value.builtin _) [Value.ref _, Value.int _ _]) _ _ _); k_dflt (refine count_list_ints (News.isList (by k_asm) (by k_mem)) (by assumption) ?_))) | ((with_reducible show wpAny _ _ (call (Value.builtin "sorted") _) _ _ _); k_dflt ((rename WholeOk _ _ _ _ => hWz); k_here; (with_reducible show wpAny _ _ (call (Value.builtin _) [Value.ref _]) _ _ _); k_dflt (refine' kso_sorted ?k1 ?k2 ?k3 ?k4 ?k5 ?_; (case k1 => k_asm); (case k2 => k_asm); (case k3 => exact News.isList (by k_asm) (by k_mem)); (case k4 => first | exact .cons _ _ (.cons _ _ (.cons _ _ .nil)) | assumption); (case k5 => exact Nat.le_of_ble_eq_true rfl)); intro _ _ _ _ _ _ _ l1 _ e' _ _ b'; clear b' e'; (try k_lt l1))) | ((with_reducible show wpAny _ _ (call (Value.ref _) _) _ _ _); k_dflt ((with_reducible show wpAny _ _ (call (Value.ref 56) [Value.ref _]) _ _ _); k_here; k_dflt (refine' Con.use ?k1 ?k2 ?k3 ?k4 ?k5 ?kK (count_con _ _ _ _ _ _ _ ?hD) ?kd ?ku ?kp ?_; (case k2 => k_asm); (case k4 => k_asm); (case k1 => k_asm); (case k3 => k_asm); (case k5 => k_asm); (case kK => first | exact rfl | assumption); (case hD => assumption); (case kp => k_mem); (case kd => first | ktr_room | decide); (case ku => first | ktr_units | decide); k_whole); refine el_int ?_; intro _ _ _ _ N9 _; (dsimp only [List.cons_append, List.nil_append] at N9); (try k_fold))) | ((with_reducible show wpAny _ _ (call (Value.type "int") _) _ _ _); k_dflt ((with_reducible show wpAny _ _ (call _ [Value.float _ _]) _ _ _); k_here; k_dflt (refine' int_ok ?hA ?hn ?hi ?_; (case hA => exact rfl); (case hn => assumption); (case hi => assumption)))) | ((with_reducible show wpAny _ _ (call (Value.builtin "min") _) _ _ _); k_dflt ((with_reducible show wpAny _ _ (call (Value.builtin _) [Value.float _ _, Value.float _ _]) _ _ _); k_here; k_dflt (refine' min2_K ?k1 ?k2 ?k3 ?_; (case k1 => exact rfl); (case k2 => k_asm); (case k3 => k_asm)); intro _ _ _ _ _)) | ((with_reducible show wpAny _ _ (call (Value.ref _) _) _ _ _); k_dflt ((with_reducible show wpAny _ _ (call (Value.ref 103) [Value.int _ _, Value.ref _, Value.int _ _]) _ _ _); k_here; k_dflt (refine' Con.use ?k1 ?k2 ?k3 ?k4 ?k5 ?kK (tally_con _ _ _ _ _ _ _ _ _ _ _ _ ?hst ?hg0 ?hg1 ?hmix) ?kd ?ku ?kp ?_; (case k2 => k_asm); (case k4 => k_asm); (case k1 => k_asm); (case k3 => k_asm); (case k5 => k_asm); (case kK => first | exact rfl | assumption); (case hmix => exact hmix_all (by assumption)); (case hst => assumption); (case hg0 => exact (fmod_b (by assumption) _).1); (case hg1 => exact (fmod_b (by assumption) _).2); (case kp => exact And.intro (by k_mem) (ent_mono (by assumption) (fun p9 hp9 => by k_mem))); (case kd => first | ktr_room | decide); (case ku => first | ktr_units | decide); k_whole); refine el_dict ?_; intro _ _ _ _ _ N9 ho9 _; (dsimp only [List.cons_append, List.nil_append] at N9); (have l9 := ord_of1 ho9); (try k_lt l9); (try k_fold))) | ((with_reducible show wpAny _ _ (call (Value.ref _) _) _ _ _); k_dflt ((with_reducible show wpAny _ _ (call (Value.ref 98) [Value.ref _]) _ _ _); k_here; k_dflt (refine' Con.use ?k1 ?k2 ?k3 ?k4 ?k5 ?kK (colour_con _ _ _ _ _ _ _ _ _ _ ?ok) ?kd ?ku (stat_mono ?p1 ?p2) ?_; (case k2 => k_asm); (case k4 => k_asm); (case k1 => k_asm); (case k3 => k_asm); (case k5 => k_asm); (case kK => first | exact rfl | assumption); (case p1 => assumption); (case p2 => first | exact sub2 (by k_mem) (by k_mem) | (intro _ _; k_mem)); (case ok => assumption); (case kd => first | ktr_room | decide); (case ku => first | ktr_units | decide); k_whole); refine el_tup ?_; intro _ _ _ _ _ _ _ N9 ho9; (dsimp only [List.cons_append, List.nil_append] at N9); (have l9 := ord_of1 ho9); (try k_lt l9); (try k_fold))) | ((with_reducible show wpAny _ _ (call (Value.ref _) _) _ _ _); k_dflt ((with_reducible show wpAny _ _ (call (Value.ref 42) [Value.ref _, Value.ref _]) _ _ _); k_here; k_dflt (refine' Con.use ?k1 ?k2 ?k3 ?k4 ?k5 ?kK (stats_con _ _ _ _ _ _ _ _ _ _ _ _ _ _ _ _ ?q1 ?q2) ?kd ?ku (And.intro (stat_mono ?p1 ?p2) (stat_mono ?p3 ?p4)) ?_; (case k2 => k_asm); (case k4 => k_asm); (case k1 => k_asm); (case k3 => k_asm); (case k5 => k_asm); (case kK => first | exact rfl | assumption); (case p1 => assumption); (case p3 => assumption); (case p2 => first | exact sub2 (by k_mem) (by k_mem) | (intro p9 hp9; k_mem)); (case p4 => first | exact sub2 (by k_mem) (by k_mem) | (intro _ _; k_mem)); (case q1 => first | assumption | exact mix2_len _ _ | exact mix3_len _ _ _ | (simp; done)); (case q2 => first | assumption | (simp; done)); (case kd => first | ktr_room | decide); (case ku => first | ktr_units | decide); k_whole); refine el_stat ?_; intro _ _ _ _ _ _ _ _ _ _ N9 _ _ _; (dsimp only [List.cons_append, List.nil_append] at N9); (try k_fold))) | ((with_reducible show wpAny _ _ (call (Value.ref _) _) _ _ _); k_dflt ((with_reducible show wpAny _ _ (call (Value.ref 91) [Value.int _ _, Value.int _ _]) _ _ _); k_here; k_dflt (refine' Con.use ?k1 ?k2 ?k3 ?k4 ?k5 ?kK (entry_con _ _ _ _ _ _ _ _ _ _ _ ?hok) ?kd ?ku ?kp ?_; (case k2 => k_asm); (case k4 => k_asm); (case k1 => k_asm); (case k3 => k_asm); (case k5 => k_asm); (case kK => first | exact rfl | assumption); (case kp => trivial); (case hok => assumption); (case kd => first | ktr_room | decide); (case ku => first | ktr_units | decide); k_whole); refine el_stat ?_; intro _ _ _ _ _ _ _ _ _ _ N9 _ _ _; (dsimp only [List.cons_append, List.nil_append] at N9); (try k_fold))) | ((with_reducible show wpAny _ _ (call (Value.builtin "len") _) _ _ _); k_dflt (k_here; (with_reducible show wpAny _ _ (call (Value.builtin "len") [Value.ref _]) _ _ _); k_dflt (refine' len_ints_fit ?k1 ?k2 ?k3 ?_; (case k1 => is_list); (case k2 => assumption); (case k3 => exact nine_len)))) | ((with_reducible show wpAny _ _ (call (Value.ref _) _) _ _ _); k_dflt ((with_reducible show wpAny _ _ (call (Value.ref 84) [Value.int _ _, Value.ref _]) _ _ _); k_here; k_dflt (refine' ConG.use ?k1 ?k2 ?k3 ?k4 ?k5 ?kK (due_con _ _ _ _ _ _ _ _ _ ?hn ?hcs ?h3 ?h100) ?kd ?ku ?kp ?_; (case k2 => k_asm); (case k4 => k_asm); (case kp => k_mem); (case hn => exact three_mod _); (case hcs => assumption); (case h3 => exact cells_3); (case h100 => exact cells_100); (case k1 => k_asm); (case k3 => k_asm); (case k5 => k_asm); (case kK => first | exact rfl | assumption); (case kd => first | ktr_room | decide); (case ku => first | ktr_units | decide); k_whole); intro _ _ _ _ _ _ _ N9 ho9 hout9; obtain ⟨P9, vals9, e91, e92, hP9⟩ := hout9; subst e91; subst e92; (dsimp only [List.cons_append, List.nil_append] at N9); (have l9 := ord_of1 ho9); (try k_lt l9); (try k_fold))) | ((with_reducible show wpAny _ _ (call (Value.ref _) _) _ _ _); k_dflt ((with_reducible show wpAny _ _ (call (Value.ref 77) [Value.int _ _, Value.ref _]) _ _ _); k_here; k_dflt (refine' ConG.use ?k1 ?k2 ?k3 ?k4 ?k5 ?kK (painted_con _ _ _ _ _ _ _ _ _ ?hn ?hcs ?h3 ?h100) ?kd ?ku ?kp ?_; (case k2 => k_asm); (case k4 => k_asm); (case kp => k_mem); (case hn => exact three_mod _); (case hcs => assumption); (case h3 => exact cells_3); (case h100 => exact cells_100); (case k1 => k_asm); (case k3 => k_asm); (case k5 => k_asm); (case kK => first | exact rfl | assumption); (case kd => first | ktr_room | decide); (case ku => first | ktr_units | decide); k_whole); intro _ _ _ _ _ _ _ N9 ho9 hout9; obtain ⟨P9, vals9, e91, e92, hP9⟩ := hout9; subst e91; subst e92; (dsimp only [List.cons_append, List.nil_append] at N9); (have l9 := ord_of1 ho9); (try k_lt l9); (try k_fold))))) | ((with_reducible show LCg.CompEnd _ _ _ _ _ _ _ _ _ _ _ _ _ _); k_dflt ((rename WholeOk _ _ _ _ => hWz); (rename News _ _ _ _ => N9); (rename Fr _ _ _ _ => F9); refine LCg.CompEnd.intro F9 N9 _ (fun _ hp => hp) ?off ?src ?_; (case off => (simp only [LCg.Off3, and_true]; assumption)); (case src => first | exact True.intro | exact Or.inr ⟨_, by k_mem, rfl, _, rfl⟩ | exact Or.inl (by assumption)))) | ((with_reducible show wpAny _ _ (exec _ _) _ _ _); (first | ((with_reducible show wpAny _ _ (exec (PySem.Stmt.For (PySem.Expr.Name _ _) (PySem.Expr.Name _ _) _ _ _) _) _ _ _); k_dflt (k_here; (with_reducible show wpAny _ _ (exec (Stmt.For (Expr.Name _ _) (Expr.Name _ _) _ _ _) _) _ _ _); (rename Fr _ _ _ _ => F9); k_dflt (refine for_m F9 (by rfl) (by rfl) ?_))) | ((with_reducible show wpAny _ _ (exec (PySem.Stmt.Assign [_] (PySem.Expr.ListComp _ _ _ _) _) _) _ _ _); k_dflt ((with_reducible show wpAny _ _ (exec (Stmt.Assign [Expr.Name _ _] (Expr.ListComp _ [⟨Expr.Tuple [Expr.Name _ _, Expr.Name _ _] _ _, _, [], _⟩] _ _) _) _) _ _ _); k_here; k_dflt (refine ecomp_assign (F₀ := by k_asm) (by rfl) (by with_unfolding_all rfl) (by with_unfolding_all rfl) (by decide) (by rfl) (by decide) (by rfl) (by rfl) (by decide) (by rfl) (by rfl) ?_))))) | walk1 | (dsimp only; walk1) | (leave1; walk_say "STEP leave1"; try dsimp only) | fail "no step"))
    (rename Fr _ _ _ _ => F4)
    (rename News _ _ _ _ => N5)
    (rename DAt _ _ _ (tallyF _ _ _) => hDT)
    have D0 : DAt w _ _ [] := d_new (by assumption) (by assumption)
    k_dflt (refine' l_loop2 ?bhh F4 N5 ?bm (JW w ps _ _) (JW.start ?bw D0) ?bstep ?bdone)
    (case bhh => exact rfl)
    (case bm => k_dflt k_mem)
    (case bw => exact rfl)
    · rintro i v it m₁ news₁ h2 tk2 own hv ⟨u, t, wl, rfl, rfl, hS⟩ hnw ⟨oit, hoit⟩ F5 N6
      (try ((with_reducible show wpAny _ _ _ _ _ _); k_fold)); (try (with_reducible refine any_tk ?_; intro _))
      clear F4 N5
      obtain ⟨e, he, hSe⟩ := hent i (by have := (List.getElem?_eq_some_iff.mp hv).1; omega)
      rw [he] at hv
      cases hv
      have hk9 := Nat.le_trans (knF_len i) (le1000 hst (hlen.trans (hvl.trans hplen)) (List.getElem?_eq_some_iff.mp he).1)
      (try ((with_reducible show wpAny _ _ _ _ _ _); k_fold)); (try (with_reducible refine any_tk ?_; intro _)); (repeat' (first | (k_unfold; (try dsimp only)) | (k_end; wrow_close) | ((with_reducible show wpAny _ _ (execs (_ :: _) _) _ _ _); (with_reducible refine any_tk ?_); intro _) | ((with_reducible show wpAny _ _ (subscriptTail _ _ _ _) _ _ _); (first | ((with_reducible show wpAny _ _ (subscriptTail (PySem.Expr.List _ _) (PySem.Expr.Slice _ _ _ _) (Value.ref _) (Value.ref _)) _ _ _); k_dflt (k_here; (with_reducible show wpAny _ _ (subscriptTail _ (PySem.Expr.Slice (some _) none none _) (Value.ref _) (Value.ref _)) _ _ _); k_dflt (refine kba_turn (value' := PySem.Expr.Name (PySem.Str.ofString "_") ⟨0, 0, 0, 0⟩) (fun _ => rfl) ?_))) | ((with_reducible show wpAny _ _ (subscriptTail (PySem.Expr.Name _ _) (PySem.Expr.Constant _ _ _) (Value.ref _) (Value.int _ _)) _ _ _); k_dflt ((rename WholeOk _ _ _ _ => hWz); k_here; (with_reducible show wpAny _ _ (subscriptTail _ _ (Value.ref _) (Value.int 2 _)) _ _ _); k_dflt (refine' tri2 ?N ?hm ?hi ?_; (case N => k_asm); (case hm => k_mem); (case hi => with_reducible assumption)); intro _)) | ((with_reducible show wpAny _ _ (subscriptTail (PySem.Expr.Name _ _) (PySem.Expr.Constant _ _ _) (Value.ref _) (Value.int _ _)) _ _ _); k_dflt ((rename WholeOk _ _ _ _ => hWz); k_here; (with_reducible show wpAny _ _ (subscriptTail _ _ (Value.ref _) (Value.int 1 _)) _ _ _); k_dflt (refine' tri1 ?N ?hm ?hi ?_; (case N => k_asm); (case hm => k_mem); (case hi => with_reducible assumption)); intro _)) | ((with_reducible show wpAny _ _ (subscriptTail (PySem.Expr.Name _ _) (PySem.Expr.Constant _ _ _) (Value.ref _) (Value.int _ _)) _ _ _); k_dflt ((rename WholeOk _ _ _ _ => hWz); k_here; (with_reducible show wpAny _ _ (subscriptTail _ _ (Value.ref _) (Value.int 0 _)) _ _ _); k_dflt (refine' tri0 ?N ?hm ?hi ?_; (case N => k_asm); (case hm => k_mem); (case hi => with_reducible assumption)); intro _)) | ((with_reducible show wpAny _ _ (subscriptTail (PySem.Expr.Name _ _) (PySem.Expr.Constant _ _ _) (Value.ref _) (Value.int _ _)) _ _ _); k_dflt (k_here; (with_reducible show wpAny _ _ (subscriptTail _ _ (Value.ref _) (Value.int _ _)) _ _ _); (refine' tup_item ?N ?hm ?h0 ?h1 ?hj ?hx ?_; (case N => k_asm); (case hm => k_mem); (case h0 => decide); (case h1 => decide); (case hj => rfl); (case hx => rfl)))) | ((with_reducible show wpAny _ _ (subscriptTail (PySem.Expr.Name _ _) (PySem.Expr.Slice _ _ _ _) (Value.ref _) (Value.ref _)) _ _ _); k_dflt (k_here; (with_reducible show wpAny _ _ (subscriptTail _ (PySem.Expr.Slice (some _) none none _) (Value.ref _) (Value.ref _)) _ _ _); (k_dflt (refine' slice_from ?F ?N ?hm ?hi ?hy ?hz ?_ ?hs ?ht; (case F => k_asm); (case N => k_asm); (case hm => k_mem); (case hi => exact .cons _ _ (.cons _ _ (.cons _ _ .nil))); (case hy => omega); (case hz => decide); (case hs => with_unfolding_all rfl); (case ht => kmk_pure)); intro _ _ _ _ _ l1 _; (try k_lt l1)))) | ((with_reducible show wpAny _ _ (subscriptTail (PySem.Expr.Name _ _) (PySem.Expr.Constant _ _ _) (Value.ref _) (Value.int _ _)) _ _ _); k_dflt (k_here; (with_reducible show wpAny _ _ (subscriptTail _ _ (Value.ref _) (Value.int _ _)) _ _ _); k_dflt (refine' ints_item ?N ?hm ?hi ?h0 ?h1 ?h2 ?_; (case N => k_asm); (case hm => k_mem); (case hi => assumption); (case h0 => decide); (case h2 => decide); (case h1 => first | exact cells_pos | omega)); intro _)))) | ((with_reducible show wpAny _ _ (binaryOp _ _ _) _ _ _); (first | ((with_reducible show wpAny _ _ (binaryOp PySem.Operator.Mult (Value.int _ _) (Value.int _ _)) _ _ _); k_dflt ((rename WholeOk _ _ _ _ => hWz); k_here; (with_reducible show wpAny _ _ (binaryOp _ (Value.int (3 : Int) _) (Value.int _ _)) _ _ _); (with_reducible refine mul_lit ?kb1 ?_); (case kb1 => decide))) | ((with_reducible show wpAny _ _ (binaryOp PySem.Operator.Mult (Value.int _ _) (Value.int _ _)) _ _ _); k_dflt ((rename WholeOk _ _ _ _ => hWz); k_here; (with_reducible refine mul_by ?kb1 ?_); (case kb1 => with_reducible assumption))) | ((with_reducible show wpAny _ _ (binaryOp PySem.Operator.Pow (Value.int _ _) (Value.int _ _)) _ _ _); k_dflt ((rename WholeOk _ _ _ _ => hWz); k_here; (with_reducible refine pow3 ?kb1 ?_); (case kb1 => with_reducible assumption))))) | ((with_reducible show wpAny _ _ (compareOp _ _ _) _ _ _); (first | ((with_reducible show wpAny _ _ (compareOp PySem.CmpOp.Eq (Value.int _ _) (Value.int _ _)) _ _ _); k_dflt ((rename WholeOk _ _ _ _ => hWz); k_here; (with_reducible refine eq_int_eq ?kb1 ?_); (case kb1 => with_reducible assumption))) | ((with_reducible show wpAny _ _ (compareOp PySem.CmpOp.NotEq (Value.int _ _) (Value.int _ _)) _ _ _); k_dflt ((rename WholeOk _ _ _ _ => hWz); k_here; (with_reducible refine ne_int_eq ?kb1 ?_); (case kb1 => with_reducible assumption))) | ((with_reducible show wpAny _ _ (compareOp PySem.CmpOp.NotEq (Value.ref _) (Value.ref _)) _ _ _); k_dflt ((rename WholeOk _ _ _ _ => hWz); k_here; (with_reducible show wpAny _ _ (compareOp CmpOp.NotEq (Value.ref _) (Value.ref _)) _ _ _); k_dflt (refine' ne_eq9 ?N ?hm ?hm2 ?hi ?hi2 ?hu ?he ?_; (case N => k_asm); (case hm => k_mem); (case hm2 => k_mem); (case hi => assumption); (case hi2 => assumption); (case hu => first | units_room | decide); (case he => exact sorted_same (by assumption) (by assumption) (by assumption) (by assumption) (by assumption))))) | ((with_reducible show wpAny _ _ (compareOp PySem.CmpOp.NotEq (Value.ref _) (Value.ref _)) _ _ _); k_dflt (k_here; (with_reducible show wpAny _ _ (compareOp CmpOp.NotEq (Value.ref _) (Value.ref _)) _ _ _); k_dflt (refine' ne_same ?N ?hm ?hm2 ?hi ?hi2 ?hu ?_; (case N => k_asm); (case hm => k_mem); (case hm2 => k_mem); (case hi => assumption); (case hi2 => assumption); (case hu => units_room)))))) | ((with_reducible show wpAny _ _ (getMethod _ _ _) _ _ _); (first | ((with_reducible show wpAny _ _ (getMethod (Value.ref _) _ _) _ _ _); k_dflt ((rename WholeOk _ _ _ _ => hWz); (with_reducible show wpAny _ _ (getMethod (Value.ref _) (PySem.Str.ofString "count") _) _ _ _); k_here; k_dflt (refine' kl_method ?N ?m PySem.F.slot_list_count PySem.F.type_list_count ?_; (case N => k_asm); (case m => k_mem)))) | ((with_reducible show wpAny _ _ (getMethod (Value.ref _) _ _) _ _ _); k_dflt ((rename WholeOk _ _ _ _ => hWz); (with_reducible show wpAny _ _ (getMethod (Value.ref _) (PySem.Str.ofString "get") _) _ _ _); k_here; k_dflt (refine' d_method ?i ?N ?m ?D ?_; (case i => exact rfl); (case N => k_asm); (case D => assumption); (case m => k_mem)))))) | ((with_reducible show wpAny _ _ (call _ _) _ _ _); (first | ((with_reducible show wpAny _ _ (call (Value.type "enumerate") [Value.ref _]) _ _ _); k_dflt (k_here; k_dflt (refine' e_make ?F ?N ?hm ?_; (case F => k_asm); (case N => k_asm); (case hm => k_mem)); intro _ _ _ _ _ _ _ _ _ _ _)) | ((with_reducible show wpAny _ _ (call (Value.builtin "dict.get") _) _ _ _); k_dflt (k_here; k_dflt (refine' d_get ?N ?m ?D ?_; (case N => k_asm); (case D => assumption); (case m => k_mem)); intro _)) | ((with_reducible show wpAny _ _ (call (Value.builtin "list.count") _) _ _ _); k_dflt ((rename WholeOk _ _ _ _ => hWz); k_here; (with_reducible show wpAny _ _ (call (Value.builtin _) [Value.ref _, Value.int _ _]) _ _ _); k_dflt (refine count_list_ints (News.isList (by k_asm) (by k_mem)) (by assumption) ?_))) | ((with_reducible show wpAny _ _ (call (Value.builtin "sorted") _) _ _ _); k_dflt ((rename WholeOk _ _ _ _ => hWz); k_here; (with_reducible show wpAny _ _ (call (Value.builtin _) [Value.ref _]) _ _ _); k_dflt (refine' kso_sorted ?k1 ?k2 ?k3 ?k4 ?k5 ?_; (case k1 => k_asm); (case k2 => k_asm); (case k3 => exact News.isList (by k_asm) (by k_mem)); (case k4 => first | exact .cons _ _ (.cons _ _ (.cons _ _ .nil)) | assumption); (case k5 => exact Nat.le_of_ble_eq_true rfl)); intro _ _ _ _ _ _ _ l1 _ e' _ _ b'; clear b' e'; (try k_lt l1))) | ((with_reducible show wpAny _ _ (call (Value.ref _) _) _ _ _); k_dflt ((with_reducible show wpAny _ _ (call (Value.ref 56) [Value.ref _]) _ _ _); k_here; k_dflt (refine' Con.use ?k1 ?k2 ?k3 ?k4 ?k5 ?kK (count_con _ _ _ _ _ _ _ ?hD) ?kd ?ku ?kp ?_; (case k2 => k_asm); (case k4 => k_asm); (case k1 => k_asm); (case k3 => k_asm); (case k5 => k_asm); (case kK => first | exact rfl | assumption); (case hD => assumption); (case kp => k_mem); (case kd => first | ktr_room | decide); (case ku => first | ktr_units | decide); k_whole); refine el_int ?_; intro _ _ _ _ N9 _; (dsimp only [List.cons_append, List.nil_append] at N9); (try k_fold))) | ((with_reducible show wpAny _ _ (call (Value.type "int") _) _ _ _); k_dflt ((with_reducible show wpAny _ _ (call _ [Value.float _ _]) _ _ _); k_here; k_dflt (refine' int_ok ?hA ?hn ?hi ?_; (case hA => exact rfl); (case hn => assumption); (case hi => assumption)))) | ((with_reducible show wpAny _ _ (call (Value.builtin "min") _) _ _ _); k_dflt ((with_reducible show wpAny _ _ (call (Value.builtin _) [Value.float _ _, Value.float _ _]) _ _ _); k_here; k_dflt (refine' min2_K ?k1 ?k2 ?k3 ?_; (case k1 => exact rfl); (case k2 => k_asm); (case k3 => k_asm)); intro _ _ _ _ _)) | ((with_reducible show wpAny _ _ (call (Value.ref _) _) _ _ _); k_dflt ((with_reducible show wpAny _ _ (call (Value.ref 103) [Value.int _ _, Value.ref _, Value.int _ _]) _ _ _); k_here; k_dflt (refine' Con.use ?k1 ?k2 ?k3 ?k4 ?k5 ?kK (tally_con _ _ _ _ _ _ _ _ _ _ _ _ ?hst ?hg0 ?hg1 ?hmix) ?kd ?ku ?kp ?_; (case k2 => k_asm); (case k4 => k_asm); (case k1 => k_asm); (case k3 => k_asm); (case k5 => k_asm); (case kK => first | exact rfl | assumption); (case hmix => exact hmix_all (by assumption)); (case hst => assumption); (case hg0 => exact (fmod_b (by assumption) _).1); (case hg1 => exact (fmod_b (by assumption) _).2); (case kp => exact And.intro (by k_mem) (ent_mono (by assumption) (fun p9 hp9 => by k_mem))); (case kd => first | ktr_room | decide); (case ku => first | ktr_units | decide); k_whole); refine el_dict ?_; intro _ _ _ _ _ N9 ho9 _; (dsimp only [List.cons_append, List.nil_append] at N9); (have l9 := ord_of1 ho9); (try k_lt l9); (try k_fold))) | ((with_reducible show wpAny _ _ (call (Value.ref _) _) _ _ _); k_dflt ((with_reducible show wpAny _ _ (call (Value.ref 98) [Value.ref _]) _ _ _); k_here; k_dflt (refine' Con.use ?k1 ?k2 ?k3 ?k4 ?k5 ?kK (colour_con _ _ _ _ _ _ _ _ _ _ ?ok) ?kd ?ku (stat_mono ?p1 ?p2) ?_; (case k2 => k_asm); (case k4 => k_asm); (case k1 => k_asm); (case k3 => k_asm); (case k5 => k_asm); (case kK => first | exact rfl | assumption); (case p1 => assumption); (case p2 => first | exact sub2 (by k_mem) (by k_mem) | (intro _ _; k_mem)); (case ok => assumption); (case kd => first | ktr_room | decide); (case ku => first | ktr_units | decide); k_whole); refine el_tup ?_; intro _ _ _ _ _ _ _ N9 ho9; (dsimp only [List.cons_append, List.nil_append] at N9); (have l9 := ord_of1 ho9); (try k_lt l9); (try k_fold))) | ((with_reducible show wpAny _ _ (call (Value.ref _) _) _ _ _); k_dflt ((with_reducible show wpAny _ _ (call (Value.ref 42) [Value.ref _, Value.ref _]) _ _ _); k_here; k_dflt (refine' Con.use ?k1 ?k2 ?k3 ?k4 ?k5 ?kK (stats_con _ _ _ _ _ _ _ _ _ _ _ _ _ _ _ _ ?q1 ?q2) ?kd ?ku (And.intro (stat_mono ?p1 ?p2) (stat_mono ?p3 ?p4)) ?_; (case k2 => k_asm); (case k4 => k_asm); (case k1 => k_asm); (case k3 => k_asm); (case k5 => k_asm); (case kK => first | exact rfl | assumption); (case p1 => assumption); (case p3 => assumption); (case p2 => first | exact sub2 (by k_mem) (by k_mem) | (intro p9 hp9; k_mem)); (case p4 => first | exact sub2 (by k_mem) (by k_mem) | (intro _ _; k_mem)); (case q1 => first | assumption | exact mix2_len _ _ | exact mix3_len _ _ _ | (simp; done)); (case q2 => first | assumption | (simp; done)); (case kd => first | ktr_room | decide); (case ku => first | ktr_units | decide); k_whole); refine el_stat ?_; intro _ _ _ _ _ _ _ _ _ _ N9 _ _ _; (dsimp only [List.cons_append, List.nil_append] at N9); (try k_fold))) | ((with_reducible show wpAny _ _ (call (Value.ref _) _) _ _ _); k_dflt ((with_reducible show wpAny _ _ (call (Value.ref 91) [Value.int _ _, Value.int _ _]) _ _ _); k_here; k_dflt (refine' Con.use ?k1 ?k2 ?k3 ?k4 ?k5 ?kK (entry_con _ _ _ _ _ _ _ _ _ _ _ ?hok) ?kd ?ku ?kp ?_; (case k2 => k_asm); (case k4 => k_asm); (case k1 => k_asm); (case k3 => k_asm); (case k5 => k_asm); (case kK => first | exact rfl | assumption); (case kp => trivial); (case hok => assumption); (case kd => first | ktr_room | decide); (case ku => first | ktr_units | decide); k_whole); refine el_stat ?_; intro _ _ _ _ _ _ _ _ _ _ N9 _ _ _; (dsimp only [List.cons_append, List.nil_append] at N9); (try k_fold))) | ((with_reducible show wpAny _ _ (call (Value.builtin "len") _) _ _ _); k_dflt (k_here; (with_reducible show wpAny _ _ (call (Value.builtin "len") [Value.ref _]) _ _ _); k_dflt (refine' len_ints_fit ?k1 ?k2 ?k3 ?_; (case k1 => is_list); (case k2 => assumption); (case k3 => exact nine_len)))) | ((with_reducible show wpAny _ _ (call (Value.ref _) _) _ _ _); k_dflt ((with_reducible show wpAny _ _ (call (Value.ref 84) [Value.int _ _, Value.ref _]) _ _ _); k_here; k_dflt (refine' ConG.use ?k1 ?k2 ?k3 ?k4 ?k5 ?kK (due_con _ _ _ _ _ _ _ _ _ ?hn ?hcs ?h3 ?h100) ?kd ?ku ?kp ?_; (case k2 => k_asm); (case k4 => k_asm); (case kp => k_mem); (case hn => exact three_mod _); (case hcs => assumption); (case h3 => exact cells_3); (case h100 => exact cells_100); (case k1 => k_asm); (case k3 => k_asm); (case k5 => k_asm); (case kK => first | exact rfl | assumption); (case kd => first | ktr_room | decide); (case ku => first | ktr_units | decide); k_whole); intro _ _ _ _ _ _ _ N9 ho9 hout9; obtain ⟨P9, vals9, e91, e92, hP9⟩ := hout9; subst e91; subst e92; (dsimp only [List.cons_append, List.nil_append] at N9); (have l9 := ord_of1 ho9); (try k_lt l9); (try k_fold))) | ((with_reducible show wpAny _ _ (call (Value.ref _) _) _ _ _); k_dflt ((with_reducible show wpAny _ _ (call (Value.ref 77) [Value.int _ _, Value.ref _]) _ _ _); k_here; k_dflt (refine' ConG.use ?k1 ?k2 ?k3 ?k4 ?k5 ?kK (painted_con _ _ _ _ _ _ _ _ _ ?hn ?hcs ?h3 ?h100) ?kd ?ku ?kp ?_; (case k2 => k_asm); (case k4 => k_asm); (case kp => k_mem); (case hn => exact three_mod _); (case hcs => assumption); (case h3 => exact cells_3); (case h100 => exact cells_100); (case k1 => k_asm); (case k3 => k_asm); (case k5 => k_asm); (case kK => first | exact rfl | assumption); (case kd => first | ktr_room | decide); (case ku => first | ktr_units | decide); k_whole); intro _ _ _ _ _ _ _ N9 ho9 hout9; obtain ⟨P9, vals9, e91, e92, hP9⟩ := hout9; subst e91; subst e92; (dsimp only [List.cons_append, List.nil_append] at N9); (have l9 := ord_of1 ho9); (try k_lt l9); (try k_fold))))) | ((with_reducible show LCg.CompEnd _ _ _ _ _ _ _ _ _ _ _ _ _ _); k_dflt ((rename WholeOk _ _ _ _ => hWz); (rename News _ _ _ _ => N9); (rename Fr _ _ _ _ => F9); refine LCg.CompEnd.intro F9 N9 _ (fun _ hp => hp) ?off ?src ?_; (case off => (simp only [LCg.Off3, and_true]; assumption)); (case src => first | exact True.intro | exact Or.inr ⟨_, by k_mem, rfl, _, rfl⟩ | exact Or.inl (by assumption)))) | ((with_reducible show wpAny _ _ (exec _ _) _ _ _); (first | ((with_reducible show wpAny _ _ (exec (PySem.Stmt.For (PySem.Expr.Name _ _) (PySem.Expr.Name _ _) _ _ _) _) _ _ _); k_dflt (k_here; (with_reducible show wpAny _ _ (exec (Stmt.For (Expr.Name _ _) (Expr.Name _ _) _ _ _) _) _ _ _); (rename Fr _ _ _ _ => F9); k_dflt (refine for_m F9 (by rfl) (by rfl) ?_))) | ((with_reducible show wpAny _ _ (exec (PySem.Stmt.Assign [_] (PySem.Expr.ListComp _ _ _ _) _) _) _ _ _); k_dflt ((with_reducible show wpAny _ _ (exec (Stmt.Assign [Expr.Name _ _] (Expr.ListComp _ [⟨Expr.Tuple [Expr.Name _ _, Expr.Name _ _] _ _, _, [], _⟩] _ _) _) _) _ _ _); k_here; k_dflt (refine ecomp_assign (F₀ := by k_asm) (by rfl) (by with_unfolding_all rfl) (by with_unfolding_all rfl) (by decide) (by rfl) (by decide) (by rfl) (by rfl) (by decide) (by rfl) (by rfl) ?_))))) | walk1 | (dsimp only; walk1) | (leave1; walk_say "STEP leave1"; try dsimp only) | fail "no step"))
      (rename Fr _ _ _ _ => F7)
      (rename News _ _ _ _ => N7)
      (rename (∀ q : Addr × Obj, q ∈ _ → ∀ p : Addr × Obj, p ∈ [(_, _), (_, _)] → _) => ho)
      (rename StatIn _ _ _ _ _ _ _ _ => hS7)
      exact jw_end (wl' := [_, _]) F7 N7 hnw (fun p hp => Nat.ne_of_gt (ho _ (List.mem_append_left _ hoit) p hp)) (stats_next hS7)
    · rintro h2 tk2 m' news' F6 N6 ⟨u, t, wl, rfl, rfl, hS⟩
      (try ((with_reducible show wpAny _ _ _ _ _ _); k_fold)); (try (with_reducible refine any_tk ?_; intro _))
      clear F4 N5
      refine (show (let P8 : Prop := _; P8) from ?_)
      intro P8
      obtain ⟨r, gg, b, hr, hg, hb, hr0, hg0, hb0, hrgb, kn, hSn, hkn⟩ := stat_end hn0 (hlen.trans (hvl.trans hplen)) hin3 hS
      clear hS
      have hW := whole_ok hst hr0 hg0 hb0 hrgb
      obtain ⟨dW, oW, w1, w2, w3, w4, hm1, hm2, hDW⟩ := hSn
      have N7 := news_last N6 hm1 hm2
      have hSW : StatIn w t r gg b n kn [(t, tupO [.int r w1, .int gg w2, .int b w3, .int n w4, .ref dW]), (dW, oW)] := stat_here hDW
      clear N6
      have hcol := hW.col
      have hn1 := hW.n1
      have hi1 := hW.i1
      have hn2 := hW.n2
      have hi2 := hW.i2
      have hn3 := hW.n3
      have hi3 := hW.i3
      have hAB := hAB_of hplen hr hg hb hW
      have hTC := dat_count hDT hst (fmod_b hn0 _).1 (fmod_b hn0 _).2
      have hFin := dat_fin hDT hst (fmod_b hn0 _).1 (fmod_b hn0 _).2 hin3 hr hg hb hW
      clear hr hg hb
      have hLB := lack_bits hst hr0 hg0 hb0 hrgb hW
      obtain ⟨hL1, hL2, hL3⟩ := hLB
      show wpAny _ _ _ _ _ _
      (try ((with_reducible show wpAny _ _ _ _ _ _); k_fold)); (try (with_reducible refine any_tk ?_; intro _)); (repeat' (first | (k_unfold; (try dsimp only)) | (k_end; wrow_close) | ((with_reducible show wpAny _ _ (execs (_ :: _) _) _ _ _); (with_reducible refine any_tk ?_); intro _) | ((with_reducible show wpAny _ _ (subscriptTail _ _ _ _) _ _ _); (first | ((with_reducible show wpAny _ _ (subscriptTail (PySem.Expr.List _ _) (PySem.Expr.Slice _ _ _ _) (Value.ref _) (Value.ref _)) _ _ _); k_dflt (k_here; (with_reducible show wpAny _ _ (subscriptTail _ (PySem.Expr.Slice (some _) none none _) (Value.ref _) (Value.ref _)) _ _ _); k_dflt (refine kba_turn (value' := PySem.Expr.Name (PySem.Str.ofString "_") ⟨0, 0, 0, 0⟩) (fun _ => rfl) ?_))) | ((with_reducible show wpAny _ _ (subscriptTail (PySem.Expr.Name _ _) (PySem.Expr.Constant _ _ _) (Value.ref _) (Value.int _ _)) _ _ _); k_dflt ((rename WholeOk _ _ _ _ => hWz); k_here; (with_reducible show wpAny _ _ (subscriptTail _ _ (Value.ref _) (Value.int 2 _)) _ _ _); k_dflt (refine' tri2 ?N ?hm ?hi ?_; (case N => k_asm); (case hm => k_mem); (case hi => with_reducible assumption)); intro _)) | ((with_reducible show wpAny _ _ (subscriptTail (PySem.Expr.Name _ _) (PySem.Expr.Constant _ _ _) (Value.ref _) (Value.int _ _)) _ _ _); k_dflt ((rename WholeOk _ _ _ _ => hWz); k_here; (with_reducible show wpAny _ _ (subscriptTail _ _ (Value.ref _) (Value.int 1 _)) _ _ _); k_dflt (refine' tri1 ?N ?hm ?hi ?_; (case N => k_asm); (case hm => k_mem); (case hi => with_reducible assumption)); intro _)) | ((with_reducible show wpAny _ _ (subscriptTail (PySem.Expr.Name _ _) (PySem.Expr.Constant _ _ _) (Value.ref _) (Value.int _ _)) _ _ _); k_dflt ((rename WholeOk _ _ _ _ => hWz); k_here; (with_reducible show wpAny _ _ (subscriptTail _ _ (Value.ref _) (Value.int 0 _)) _ _ _); k_dflt (refine' tri0 ?N ?hm ?hi ?_; (case N => k_asm); (case hm => k_mem); (case hi => with_reducible assumption)); intro _)) | ((with_reducible show wpAny _ _ (subscriptTail (PySem.Expr.Name _ _) (PySem.Expr.Constant _ _ _) (Value.ref _) (Value.int _ _)) _ _ _); k_dflt (k_here; (with_reducible show wpAny _ _ (subscriptTail _ _ (Value.ref _) (Value.int _ _)) _ _ _); (refine' tup_item ?N ?hm ?h0 ?h1 ?hj ?hx ?_; (case N => k_asm); (case hm => k_mem); (case h0 => decide); (case h1 => decide); (case hj => rfl); (case hx => rfl)))) | ((with_reducible show wpAny _ _ (subscriptTail (PySem.Expr.Name _ _) (PySem.Expr.Slice _ _ _ _) (Value.ref _) (Value.ref _)) _ _ _); k_dflt (k_here; (with_reducible show wpAny _ _ (subscriptTail _ (PySem.Expr.Slice (some _) none none _) (Value.ref _) (Value.ref _)) _ _ _); (k_dflt (refine' slice_from ?F ?N ?hm ?hi ?hy ?hz ?_ ?hs ?ht; (case F => k_asm); (case N => k_asm); (case hm => k_mem); (case hi => exact .cons _ _ (.cons _ _ (.cons _ _ .nil))); (case hy => omega); (case hz => decide); (case hs => with_unfolding_all rfl); (case ht => kmk_pure)); intro _ _ _ _ _ l1 _; (try k_lt l1)))) | ((with_reducible show wpAny _ _ (subscriptTail (PySem.Expr.Name _ _) (PySem.Expr.Constant _ _ _) (Value.ref _) (Value.int _ _)) _ _ _); k_dflt (k_here; (with_reducible show wpAny _ _ (subscriptTail _ _ (Value.ref _) (Value.int _ _)) _ _ _); k_dflt (refine' ints_item ?N ?hm ?hi ?h0 ?h1 ?h2 ?_; (case N => k_asm); (case hm => k_mem); (case hi => assumption); (case h0 => decide); (case h2 => decide); (case h1 => first | exact cells_pos | omega)); intro _)))) | ((with_reducible show wpAny _ _ (binaryOp _ _ _) _ _ _); (first | ((with_reducible show wpAny _ _ (binaryOp PySem.Operator.Mult (Value.int _ _) (Value.int _ _)) _ _ _); k_dflt ((rename WholeOk _ _ _ _ => hWz); k_here; (with_reducible show wpAny _ _ (binaryOp _ (Value.int (3 : Int) _) (Value.int _ _)) _ _ _); (with_reducible refine mul_lit ?kb1 ?_); (case kb1 => decide))) | ((with_reducible show wpAny _ _ (binaryOp PySem.Operator.Mult (Value.int _ _) (Value.int _ _)) _ _ _); k_dflt ((rename WholeOk _ _ _ _ => hWz); k_here; (with_reducible refine mul_by ?kb1 ?_); (case kb1 => with_reducible assumption))) | ((with_reducible show wpAny _ _ (binaryOp PySem.Operator.Pow (Value.int _ _) (Value.int _ _)) _ _ _); k_dflt ((rename WholeOk _ _ _ _ => hWz); k_here; (with_reducible refine pow3 ?kb1 ?_); (case kb1 => with_reducible assumption))))) | ((with_reducible show wpAny _ _ (compareOp _ _ _) _ _ _); (first | ((with_reducible show wpAny _ _ (compareOp PySem.CmpOp.Eq (Value.int _ _) (Value.int _ _)) _ _ _); k_dflt ((rename WholeOk _ _ _ _ => hWz); k_here; (with_reducible refine eq_int_eq ?kb1 ?_); (case kb1 => with_reducible assumption))) | ((with_reducible show wpAny _ _ (compareOp PySem.CmpOp.NotEq (Value.int _ _) (Value.int _ _)) _ _ _); k_dflt ((rename WholeOk _ _ _ _ => hWz); k_here; (with_reducible refine ne_int_eq ?kb1 ?_); (case kb1 => with_reducible assumption))) | ((with_reducible show wpAny _ _ (compareOp PySem.CmpOp.NotEq (Value.ref _) (Value.ref _)) _ _ _); k_dflt ((rename WholeOk _ _ _ _ => hWz); k_here; (with_reducible show wpAny _ _ (compareOp CmpOp.NotEq (Value.ref _) (Value.ref _)) _ _ _); k_dflt (refine' ne_eq9 ?N ?hm ?hm2 ?hi ?hi2 ?hu ?he ?_; (case N => k_asm); (case hm => k_mem); (case hm2 => k_mem); (case hi => assumption); (case hi2 => assumption); (case hu => first | units_room | decide); (case he => exact sorted_same (by assumption) (by assumption) (by assumption) (by assumption) (by assumption))))) | ((with_reducible show wpAny _ _ (compareOp PySem.CmpOp.NotEq (Value.ref _) (Value.ref _)) _ _ _); k_dflt (k_here; (with_reducible show wpAny _ _ (compareOp CmpOp.NotEq (Value.ref _) (Value.ref _)) _ _ _); k_dflt (refine' ne_same ?N ?hm ?hm2 ?hi ?hi2 ?hu ?_; (case N => k_asm); (case hm => k_mem); (case hm2 => k_mem); (case hi => assumption); (case hi2 => assumption); (case hu => units_room)))))) | ((with_reducible show wpAny _ _ (getMethod _ _ _) _ _ _); (first | ((with_reducible show wpAny _ _ (getMethod (Value.ref _) _ _) _ _ _); k_dflt ((rename WholeOk _ _ _ _ => hWz); (with_reducible show wpAny _ _ (getMethod (Value.ref _) (PySem.Str.ofString "count") _) _ _ _); k_here; k_dflt (refine' kl_method ?N ?m PySem.F.slot_list_count PySem.F.type_list_count ?_; (case N => k_asm); (case m => k_mem)))) | ((with_reducible show wpAny _ _ (getMethod (Value.ref _) _ _) _ _ _); k_dflt ((rename WholeOk _ _ _ _ => hWz); (with_reducible show wpAny _ _ (getMethod (Value.ref _) (PySem.Str.ofString "get") _) _ _ _); k_here; k_dflt (refine' d_method ?i ?N ?m ?D ?_; (case i => exact rfl); (case N => k_asm); (case D => assumption); (case m => k_mem)))))) | ((with_reducible show wpAny _ _ (call _ _) _ _ _); (first | ((with_reducible show wpAny _ _ (call (Value.type "enumerate") [Value.ref _]) _ _ _); k_dflt (k_here; k_dflt (refine' e_make ?F ?N ?hm ?_; (case F => k_asm); (case N => k_asm); (case hm => k_mem)); intro _ _ _ _ _ _ _ _ _ _ _)) | ((with_reducible show wpAny _ _ (call (Value.builtin "dict.get") _) _ _ _); k_dflt (k_here; k_dflt (refine' d_get ?N ?m ?D ?_; (case N => k_asm); (case D => assumption); (case m => k_mem)); intro _)) | ((with_reducible show wpAny _ _ (call (Value.builtin "list.count") _) _ _ _); k_dflt ((rename WholeOk _ _ _ _ => hWz); k_here; (with_reducible show wpAny _ _ (call (Value.builtin _) [Value.ref _, Value.int _ _]) _ _ _); k_dflt (refine count_list_ints (News.isList (by k_asm) (by k_mem)) (by assumption) ?_))) | ((with_reducible show wpAny _ _ (call (Value.builtin "sorted") _) _ _ _); k_dflt ((rename WholeOk _ _ _ _ => hWz); k_here; (with_reducible show wpAny _ _ (call (Value.builtin _) [Value.ref _]) _ _ _); k_dflt (refine' kso_sorted ?k1 ?k2 ?k3 ?k4 ?k5 ?_; (case k1 => k_asm); (case k2 => k_asm); (case k3 => exact News.isList (by k_asm) (by k_mem)); (case k4 => first | exact .cons _ _ (.cons _ _ (.cons _ _ .nil)) | assumption); (case k5 => exact Nat.le_of_ble_eq_true rfl)); intro _ _ _ _ _ _ _ l1 _ e' _ _ b'; clear b' e'; (try k_lt l1))) | ((with_reducible show wpAny _ _ (call (Value.ref _) _) _ _ _); k_dflt ((with_reducible show wpAny _ _ (call (Value.ref 56) [Value.ref _]) _ _ _); k_here; k_dflt (refine' Con.use ?k1 ?k2 ?k3 ?k4 ?k5 ?kK (count_con _ _ _ _ _ _ _ ?hD) ?kd ?ku ?kp ?_; (case k2 => k_asm); (case k4 => k_asm); (case k1 => k_asm); (case k3 => k_asm); (case k5 => k_asm); (case kK => first | exact rfl | assumption); (case hD => assumption); (case kp => k_mem); (case kd => first | ktr_room | decide); (case ku => first | ktr_units | decide); k_whole); refine el_int ?_; intro _ _ _ _ N9 _; (dsimp only [List.cons_append, List.nil_append] at N9); (try k_fold))) | ((with_reducible show wpAny _ _ (call (Value.type "int") _) _ _ _); k_dflt ((with_reducible show wpAny _ _ (call _ [Value.float _ _]) _ _ _); k_here; k_dflt (refine' int_ok ?hA ?hn ?hi ?_; (case hA => exact rfl); (case hn => assumption); (case hi => assumption)))) | ((with_reducible show wpAny _ _ (call (Value.builtin "min") _) _ _ _); k_dflt ((with_reducible show wpAny _ _ (call (Value.builtin _) [Value.float _ _, Value.float _ _]) _ _ _); k_here; k_dflt (refine' min2_K ?k1 ?k2 ?k3 ?_; (case k1 => exact rfl); (case k2 => k_asm); (case k3 => k_asm)); intro _ _ _ _ _)) | ((with_reducible show wpAny _ _ (call (Value.ref _) _) _ _ _); k_dflt ((with_reducible show wpAny _ _ (call (Value.ref 103) [Value.int _ _, Value.ref _, Value.int _ _]) _ _ _); k_here; k_dflt (refine' Con.use ?k1 ?k2 ?k3 ?k4 ?k5 ?kK (tally_con _ _ _ _ _ _ _ _ _ _ _ _ ?hst ?hg0 ?hg1 ?hmix) ?kd ?ku ?kp ?_; (case k2 => k_asm); (case k4 => k_asm); (case k1 => k_asm); (case k3 => k_asm); (case k5 => k_asm); (case kK => first | exact rfl | assumption); (case hmix => exact hmix_all (by assumption)); (case hst => assumption); (case hg0 => exact (fmod_b (by assumption) _).1); (case hg1 => exact (fmod_b (by assumption) _).2); (case kp => exact And.intro (by k_mem) (ent_mono (by assumption) (fun p9 hp9 => by k_mem))); (case kd => first | ktr_room | decide); (case ku => first | ktr_units | decide); k_whole); refine el_dict ?_; intro _ _ _ _ _ N9 ho9 _; (dsimp only [List.cons_append, List.nil_append] at N9); (have l9 := ord_of1 ho9); (try k_lt l9); (try k_fold))) | ((with_reducible show wpAny _ _ (call (Value.ref _) _) _ _ _); k_dflt ((with_reducible show wpAny _ _ (call (Value.ref 98) [Value.ref _]) _ _ _); k_here; k_dflt (refine' Con.use ?k1 ?k2 ?k3 ?k4 ?k5 ?kK (colour_con _ _ _ _ _ _ _ _ _ _ ?ok) ?kd ?ku (stat_mono ?p1 ?p2) ?_; (case k2 => k_asm); (case k4 => k_asm); (case k1 => k_asm); (case k3 => k_asm); (case k5 => k_asm); (case kK => first | exact rfl | assumption); (case p1 => assumption); (case p2 => first | exact sub2 (by k_mem) (by k_mem) | (intro _ _; k_mem)); (case ok => assumption); (case kd => first | ktr_room | decide); (case ku => first | ktr_units | decide); k_whole); refine el_tup ?_; intro _ _ _ _ _ _ _ N9 ho9; (dsimp only [List.cons_append, List.nil_append] at N9); (have l9 := ord_of1 ho9); (try k_lt l9); (try k_fold))) | ((with_reducible show wpAny _ _ (call (Value.ref _) _) _ _ _); k_dflt ((with_reducible show wpAny _ _ (call (Value.ref 42) [Value.ref _, Value.ref _]) _ _ _); k_here; k_dflt (refine' Con.use ?k1 ?k2 ?k3 ?k4 ?k5 ?kK (stats_con _ _ _ _ _ _ _ _ _ _ _ _ _ _ _ _ ?q1 ?q2) ?kd ?ku (And.intro (stat_mono ?p1 ?p2) (stat_mono ?p3 ?p4)) ?_; (case k2 => k_asm); (case k4 => k_asm); (case k1 => k_asm); (case k3 => k_asm); (case k5 => k_asm); (case kK => first | exact rfl | assumption); (case p1 => assumption); (case p3 => assumption); (case p2 => first | exact sub2 (by k_mem) (by k_mem) | (intro p9 hp9; k_mem)); (case p4 => first | exact sub2 (by k_mem) (by k_mem) | (intro _ _; k_mem)); (case q1 => first | assumption | exact mix2_len _ _ | exact mix3_len _ _ _ | (simp; done)); (case q2 => first | assumption | (simp; done)); (case kd => first | ktr_room | decide); (case ku => first | ktr_units | decide); k_whole); refine el_stat ?_; intro _ _ _ _ _ _ _ _ _ _ N9 _ _ _; (dsimp only [List.cons_append, List.nil_append] at N9); (try k_fold))) | ((with_reducible show wpAny _ _ (call (Value.ref _) _) _ _ _); k_dflt ((with_reducible show wpAny _ _ (call (Value.ref 91) [Value.int _ _, Value.int _ _]) _ _ _); k_here; k_dflt (refine' Con.use ?k1 ?k2 ?k3 ?k4 ?k5 ?kK (entry_con _ _ _ _ _ _ _ _ _ _ _ ?hok) ?kd ?ku ?kp ?_; (case k2 => k_asm); (case k4 => k_asm); (case k1 => k_asm); (case k3 => k_asm); (case k5 => k_asm); (case kK => first | exact rfl | assumption); (case kp => trivial); (case hok => assumption); (case kd => first | ktr_room | decide); (case ku => first | ktr_units | decide); k_whole); refine el_stat ?_; intro _ _ _ _ _ _ _ _ _ _ N9 _ _ _; (dsimp only [List.cons_append, List.nil_append] at N9); (try k_fold))) | ((with_reducible show wpAny _ _ (call (Value.builtin "len") _) _ _ _); k_dflt (k_here; (with_reducible show wpAny _ _ (call (Value.builtin "len") [Value.ref _]) _ _ _); k_dflt (refine' len_ints_fit ?k1 ?k2 ?k3 ?_; (case k1 => is_list); (case k2 => assumption); (case k3 => exact nine_len)))) | ((with_reducible show wpAny _ _ (call (Value.ref _) _) _ _ _); k_dflt ((with_reducible show wpAny _ _ (call (Value.ref 84) [Value.int _ _, Value.ref _]) _ _ _); k_here; k_dflt (refine' ConG.use ?k1 ?k2 ?k3 ?k4 ?k5 ?kK (due_con _ _ _ _ _ _ _ _ _ ?hn ?hcs ?h3 ?h100) ?kd ?ku ?kp ?_; (case k2 => k_asm); (case k4 => k_asm); (case kp => k_mem); (case hn => exact three_mod _); (case hcs => assumption); (case h3 => exact cells_3); (case h100 => exact cells_100); (case k1 => k_asm); (case k3 => k_asm); (case k5 => k_asm); (case kK => first | exact rfl | assumption); (case kd => first | ktr_room | decide); (case ku => first | ktr_units | decide); k_whole); intro _ _ _ _ _ _ _ N9 ho9 hout9; obtain ⟨P9, vals9, e91, e92, hP9⟩ := hout9; subst e91; subst e92; (dsimp only [List.cons_append, List.nil_append] at N9); (have l9 := ord_of1 ho9); (try k_lt l9); (try k_fold))) | ((with_reducible show wpAny _ _ (call (Value.ref _) _) _ _ _); k_dflt ((with_reducible show wpAny _ _ (call (Value.ref 77) [Value.int _ _, Value.ref _]) _ _ _); k_here; k_dflt (refine' ConG.use ?k1 ?k2 ?k3 ?k4 ?k5 ?kK (painted_con _ _ _ _ _ _ _ _ _ ?hn ?hcs ?h3 ?h100) ?kd ?ku ?kp ?_; (case k2 => k_asm); (case k4 => k_asm); (case kp => k_mem); (case hn => exact three_mod _); (case hcs => assumption); (case h3 => exact cells_3); (case h100 => exact cells_100); (case k1 => k_asm); (case k3 => k_asm); (case k5 => k_asm); (case kK => first | exact rfl | assumption); (case kd => first | ktr_room | decide); (case ku => first | ktr_units | decide); k_whole); intro _ _ _ _ _ _ _ N9 ho9 hout9; obtain ⟨P9, vals9, e91, e92, hP9⟩ := hout9; subst e91; subst e92; (dsimp only [List.cons_append, List.nil_append] at N9); (have l9 := ord_of1 ho9); (try k_lt l9); (try k_fold))))) | ((with_reducible show LCg.CompEnd _ _ _ _ _ _ _ _ _ _ _ _ _ _); k_dflt ((rename WholeOk _ _ _ _ => hWz); (rename News _ _ _ _ => N9); (rename Fr _ _ _ _ => F9); refine LCg.CompEnd.intro F9 N9 _ (fun _ hp => hp) ?off ?src ?_; (case off => (simp only [LCg.Off3, and_true]; assumption)); (case src => first | exact True.intro | exact Or.inr ⟨_, by k_mem, rfl, _, rfl⟩ | exact Or.inl (by assumption)))) | ((with_reducible show wpAny _ _ (exec _ _) _ _ _); (first | ((with_reducible show wpAny _ _ (exec (PySem.Stmt.For (PySem.Expr.Name _ _) (PySem.Expr.Name _ _) _ _ _) _) _ _ _); k_dflt (k_here; (with_reducible show wpAny _ _ (exec (Stmt.For (Expr.Name _ _) (Expr.Name _ _) _ _ _) _) _ _ _); (rename Fr _ _ _ _ => F9); k_dflt (refine for_m F9 (by rfl) (by rfl) ?_))) | ((with_reducible show wpAny _ _ (exec (PySem.Stmt.Assign [_] (PySem.Expr.ListComp _ _ _ _) _) _) _ _ _); k_dflt ((with_reducible show wpAny _ _ (exec (Stmt.Assign [Expr.Name _ _] (Expr.ListComp _ [⟨Expr.Tuple [Expr.Name _ _, Expr.Name _ _] _ _, _, [], _⟩] _ _) _) _) _ _ _); k_here; k_dflt (refine ecomp_assign (F₀ := by k_asm) (by rfl) (by with_unfolding_all rfl) (by with_unfolding_all rfl) (by decide) (by rfl) (by decide) (by rfl) (by rfl) (by decide) (by rfl) (by rfl) ?_))))) | walk1 | (dsimp only; walk1) | (leave1; walk_say "STEP leave1"; try dsimp only) | fail "no step"))
      (rename Fr _ _ _ _ => F8)
      (rename (_ = (#[] : Array GenState)) => hgz)
      refine good_end F8 (bare2 hgz (by assumption) (by assumption)) (fun _ => rfl) ?_ rfl
      exact law_post _)
end Mine
end

theorem PySem.Challenge.cw_wo0018_01_holds : PySem.Challenge.rw_wo0018_01.Holds :=
  Mine.law_holds
