import PyProof.Rows.All
import Wide.All
import OpenK.AllK
import Wide.FinOn
import PySem.Challenge.RW_xg0010_01
open PySem PySem.W PyProof.Rows
set_option Elab.async false

namespace Mine
section
open PySem PySem.W PyProof.Rows
set_option maxRecDepth 100000
set_option maxRecDepth 100000 in
set_option maxHeartbeats 8000000 in
open_top hd for PySem.Challenge.rw_xg0010_01

end
end Mine

namespace Mine
section
open PySem PySem.W PyProof.Rows PySem.Calls PySem.Spec
set_option maxRecDepth 100000

noncomputable abbrev prog : Program := PySem.Challenge.rw_xg0010_01.row.prog
noncomputable abbrev loose0 : List Str := looseW hd.view_39 [Str.ofString "_twin_re_1", Str.ofString "ONE_THIRD", Str.ofString "ONE_SIXTH", Str.ofString "TWO_THIRD", Str.ofString "UTC_ZONES", Str.ofString "TIMEZONE_RE"]
noncomputable abbrev KK (w : World) : Frag := hd.heap_39 w.params

/-- what a call of the def at address f says: R of the value and of the objects that stay -/
abbrev Says (k : Nat) (w : World) (mean : ExcName → Option Value) (mg mb : Str → Option Value) (f : Addr) (vs : List Value) (pre : List (Addr × Obj) → Prop) (R : Value → List (Addr × Obj) → Prop) : Prop :=
  ∀ (dp un : Nat) (gd : Option (List Code)) (cn : Str) (cs : Scope) (a : Addr) (ccd : Value) (cl : List (Str × Addr)) (outer : List Env) (A₀ : Around) (base h₀ : Heap) (L : Addr) (m : Str → Option Value) (news : List (Addr × Obj)) (s : Shared) (Q E : Value → Shared → Prop),
    Below A₀ base outer h₀ → Fr h₀ L s.heap m → (KK w).In h₀ → News h₀ L s.heap news → Top hd.view_39 loose0 mean mg mb h₀ → cs.kind = .function → dp + k < recursionLimit → un + 8 * k < cLine → pre news →
    (∀ v nx h' tk', R v nx → (∀ q ∈ news, ∀ p ∈ nx, q.1 < p.1) → Fr h₀ L h' m → News h₀ L h' (nx ++ news) → Q v { s with heap := h', toks := tk' }) →
    wpAny (model prog w) (ktrTop dp un gd cn cs L a ccd cl outer) (call (.ref f) vs) Q E s

theorem says_use {k : Nat} {w : World} {mean : ExcName → Option Value} {mg mb : Str → Option Value} {f : Addr} {vs : List Value} {pre : List (Addr × Obj) → Prop} {R : Value → List (Addr × Obj) → Prop} (C : Says k w mean mg mb f vs pre R)
    {dp un : Nat} {gd : Option (List Code)} {cn : Str} {cs : Scope} {a : Addr} {ccd : Value} {cl : List (Str × Addr)} {outer : List Env} {A₀ : Around} {base h₀ : Heap} {L : Addr} {m : Str → Option Value} {news : List (Addr × Obj)} {s : Shared} {Q E : Value → Shared → Prop}
    (B : Below A₀ base outer h₀) (F : Fr h₀ L s.heap m) (X : (KK w).In h₀) (N : News h₀ L s.heap news) (T : Top hd.view_39 loose0 mean mg mb h₀) (hk : cs.kind = .function) (hd : dp + k < recursionLimit) (hu : un + 8 * k < cLine) (hp : pre news)
    (ret : ∀ v nx h' tk', R v nx → (∀ q ∈ news, ∀ p ∈ nx, q.1 < p.1) → Fr h₀ L h' m → News h₀ L h' (nx ++ news) → Q v { s with heap := h', toks := tk' }) :
    wpAny (model prog w) (ktrTop dp un gd cn cs L a ccd cl outer) (call (.ref f) vs) Q E s := C _ _ _ _ _ _ _ _ _ _ _ _ _ _ _ _ _ _ B F X N T hk hd hu hp ret

/-- a call's return: a value that is no object -/
theorem says_ret0 {h₀ h' : Heap} {L : Addr} {m : Str → Option Value} {news news' : List (Addr × Obj)} {s : Shared} {Q : Value → Shared → Prop} {R : Value → List (Addr × Obj) → Prop} {v : Value} {tk' : Nat}
    (hret : ∀ v nx h' tk', R v nx → (∀ q ∈ news, ∀ p ∈ nx, q.1 < p.1) → Fr h₀ L h' m → News h₀ L h' (nx ++ news) → Q v { s with heap := h', toks := tk' })
    (F : Fr h₀ L h' m) (N : News h₀ L h' news') (hs : ∀ p ∈ news, p ∈ news') (e : R v []) : Q v { s with heap := h', toks := tk' } :=
  hret v [] h' tk' e (fun _ _ _ h => nomatch h) F (fun p hp => N p (hs p hp))
/-- .. one object that it made -/
theorem says_ret1 {h₀ h' : Heap} {L : Addr} {m : Str → Option Value} {news news' : List (Addr × Obj)} {s : Shared} {Q : Value → Shared → Prop} {R : Value → List (Addr × Obj) → Prop} {v : Value} {tk' : Nat} {p : Addr × Obj}
    (hret : ∀ v nx h' tk', R v nx → (∀ q ∈ news, ∀ p ∈ nx, q.1 < p.1) → Fr h₀ L h' m → News h₀ L h' (nx ++ news) → Q v { s with heap := h', toks := tk' })
    (F : Fr h₀ L h' m) (N : News h₀ L h' news') (hs : ∀ p ∈ news, p ∈ news') (hp : p ∈ news') (lt : ∀ q ∈ news, q.1 < p.1) (e : R v [p]) : Q v { s with heap := h', toks := tk' } :=
  hret v [p] h' tk' e (fun q hq r hr => by cases hr with | head => exact lt q hq | tail _ h => exact nomatch h) F
    (fun q hq => by cases hq with | head => exact N p hp | tail _ h => exact N q (hs q h))
/-- a goal that the walk is to leave alone -/
def Held (p : Prop) : Prop := p
theorem held {p : Prop} (h : Held p) : p := h

end
end Mine

namespace Mine
section
open PySem PySem.W PyProof.Rows PySem.Calls PySem.Spec
set_option maxRecDepth 100000

def fLt (x y : UInt64) : Bool := Float64.cmp x y == some Ordering.lt
def vF (x y z : UInt64) : UInt64 :=
  let h := (Float64.divmod z 4607182418800017408).2
  if (Float64.cmp h 4595172819793696085 == some Ordering.lt) = true then Float64.add x (Float64.mul (Float64.mul (Float64.sub y x) h) 4618441417868443648)
  else if (Float64.cmp h 4602678819172646912 == some Ordering.lt) = true then y
  else if (Float64.cmp h 4604180019048437077 == some Ordering.lt) = true then Float64.add x (Float64.mul (Float64.mul (Float64.sub y x) (Float64.sub 4604180019048437077 h)) 4618441417868443648)
  else x

theorem fl_is {b b' : UInt64} {t : Tok} (e : b = b') : ∃ t', Value.float b t = .float b' t' := ⟨t, by rw [e]⟩
set_option maxHeartbeats 8000000 in
theorem v_says (w : World) (mean mg mb) (x y z : UInt64) (t1 t2 t3 : Tok) : Says 1 w mean mg mb 64 [.float x t1, .float y t2, .float z t3] (fun _ => True) (fun v nx => nx = [] ∧ ∃ t, v = .float (vF x y z) t) := by
  unfold Says KK prog
  k_fill
  intro dp un gd cn cs a ccd cl outer A₀ base h₀ L m news s Q E B F X N T hk hd hu hp hret
  refine wpAny_call ?_
  k_dflt cell_enter
  k_steps
  all_goals (refine' says_ret0 (Q := Q) (s := s) hret ?k1 ?k2 ?k3 ?k4; (case k1 => k_asm); (case k2 => assumption); (case k3 => exact fun p hp => hp); (case k4 => refine ⟨rfl, fl_is ?_⟩; unfold vF; simp only [*]; first | done | rfl | simp))

theorem v_use {w : World} {mean : ExcName → Option Value} {mg mb : Str → Option Value} {x y z : UInt64} {t1 t2 t3 : Tok}
    {dp un : Nat} {gd : Option (List Code)} {cn : Str} {cs : Scope} {a : Addr} {ccd : Value} {cl : List (Str × Addr)} {outer : List Env} {A₀ : Around} {base h₀ : Heap} {L : Addr} {m : Str → Option Value} {news : List (Addr × Obj)} {s : Shared} {Q E : Value → Shared → Prop}
    (B : Below A₀ base outer h₀) (F : Fr h₀ L s.heap m) (X : (KK w).In h₀) (N : News h₀ L s.heap news) (T : Top hd.view_39 loose0 mean mg mb h₀) (hk : cs.kind = .function) (hd : dp + 1 < recursionLimit) (hu : un + 8 * 1 < cLine)
    (ret : ∀ t h' tk', Fr h₀ L h' m → News h₀ L h' news → Q (.float (vF x y z) t) { s with heap := h', toks := tk' }) :
    wpAny (model prog w) (ktrTop dp un gd cn cs L a ccd cl outer) (call (.ref 64) [.float x t1, .float y t2, .float z t3]) Q E s :=
  says_use (v_says w mean mg mb x y z t1 t2 t3) B F X N T hk hd hu trivial (fun v nx h' tk' r _ F' N' => by
    obtain ⟨e, t, e'⟩ := r
    subst e; subst e'
    exact ret t h' tk' F' N')


end
end Mine

namespace Mine
section
open PySem PySem.W PyProof.Rows PySem.Calls PySem.Spec
set_option maxRecDepth 100000

local macro_rules | `(tactic| walk_at "call ref") => `(tactic| (k_here; (with_unfolding_all refine' v_use ?k1 ?k2 ?k3 ?k4 ?k5 ?kK ?kd ?ku ?_); (case k1 => k_asm); (case k2 => k_asm); (case k3 => k_asm); (case k4 => k_asm); (case k5 => k_asm); (case kK => first | exact rfl | assumption); (case kd => ktr_room); (case ku => ktr_units); intro t9 h9 tk9 F9 N9; (try dsimp only); (try k_fold)))

def hlsF (x y z : UInt64) : UInt64 × UInt64 × UInt64 :=
  if (Float64.cmp z 0 == some Ordering.eq) = true then (y, y, y)
  else
    let m2 := if (Float64.cmp y 4602678819172646912 == some Ordering.lt || Float64.cmp y 4602678819172646912 == some Ordering.eq) = true then Float64.mul y (Float64.add 4607182418800017408 z) else Float64.sub (Float64.add y z) (Float64.mul y z)
    let m1 := Float64.sub (Float64.mul 4611686018427387904 y) m2
    (vF m1 m2 (Float64.add x 4599676419421066581), vF m1 m2 x, vF m1 m2 (Float64.sub x 4599676419421066581))

/-- a tuple of three floats -/
def Tup3 (r : UInt64 × UInt64 × UInt64) (v : Value) (nx : List (Addr × Obj)) : Prop :=
  ∃ D t1 t2 t3, v = .ref D ∧ nx = [(D, { cls := .type "tuple", data := .seq #[.float r.1 t1, .float r.2.1 t2, .float r.2.2 t3] })]
theorem tup3_is {r : UInt64 × UInt64 × UInt64} {D : Addr} {a b c : UInt64} {t1 t2 t3 : Tok} (e : (a, b, c) = r) : Tup3 r (.ref D) [(D, { cls := .type "tuple", data := .seq #[.float a t1, .float b t2, .float c t3] })] := by
  subst e; exact ⟨D, t1, t2, t3, rfl, rfl⟩

set_option maxHeartbeats 8000000 in
theorem hls_says (w : World) (mean mg mb) (x y z : UInt64) (t1 t2 t3 : Tok) : Says 2 w mean mg mb 57 [.float x t1, .float y t2, .float z t3] (fun _ => True) (Tup3 (hlsF x y z)) := by
  unfold Says KK prog
  k_fill
  intro dp un gd cn cs a ccd cl outer A₀ base h₀ L m news s Q E B F X N T hk hd hu hp hret
  refine wpAny_call ?_
  k_dflt cell_enter
  k_steps
  all_goals (refine' says_ret1 (Q := Q) (s := s) hret ?k1 ?k2 ?k3 ?k4 ?k5 ?k6; (case k1 => k_asm); (case k2 => assumption); (case k3 => exact fun p hp => .tail _ hp); (case k4 => exact .head _); (case k5 => assumption); (case k6 => refine tup3_is ?_; unfold hlsF; simp only [*, Bool.false_eq_true, if_false, if_true]))

theorem hls_use {w : World} {mean : ExcName → Option Value} {mg mb : Str → Option Value} {x y z : UInt64} {t1 t2 t3 : Tok}
    {dp un : Nat} {gd : Option (List Code)} {cn : Str} {cs : Scope} {a : Addr} {ccd : Value} {cl : List (Str × Addr)} {outer : List Env} {A₀ : Around} {base h₀ : Heap} {L : Addr} {m : Str → Option Value} {news : List (Addr × Obj)} {s : Shared} {Q E : Value → Shared → Prop}
    (B : Below A₀ base outer h₀) (F : Fr h₀ L s.heap m) (X : (KK w).In h₀) (N : News h₀ L s.heap news) (T : Top hd.view_39 loose0 mean mg mb h₀) (hk : cs.kind = .function) (hd : dp + 2 < recursionLimit) (hu : un + 8 * 2 < cLine)
    (ret : ∀ D t1 t2 t3 h' tk', (∀ q ∈ news, q.1 < D) → Fr h₀ L h' m → News h₀ L h' ((D, { cls := .type "tuple", data := .seq #[.float (hlsF x y z).1 t1, .float (hlsF x y z).2.1 t2, .float (hlsF x y z).2.2 t3] }) :: news) → Q (.ref D) { s with heap := h', toks := tk' }) :
    wpAny (model prog w) (ktrTop dp un gd cn cs L a ccd cl outer) (call (.ref 57) [.float x t1, .float y t2, .float z t3]) Q E s :=
  says_use (hls_says w mean mg mb x y z t1 t2 t3) B F X N T hk hd hu trivial (fun v nx h' tk' r l F' N' => by
    obtain ⟨D, t1, t2, t3, e, e'⟩ := r
    subst e; subst e'
    exact ret D t1 t2 t3 h' tk' (fun q hq => l q hq _ (.head _)) F' N')

end
end Mine

namespace Mine
section
open PySem PySem.W PyProof.Rows PySem.Calls PySem.Spec
set_option maxRecDepth 100000

def best3 (bt : UInt64 → UInt64 → Bool) (a b c : UInt64) : UInt64 :=
  let d := if bt b a = true then b else a
  if bt c d = true then c else d

section
variable {A : Around} {E : Value → Shared → Prop} {s : Shared} {Q : Value → Shared → Prop} {p : Program} {w : World}
theorem walk3 (hh : A.handled = none) (a b c : Value) (op : CmpOp) (bt : Nat → Nat → Bool) (v' : Value)
    (hc : CmpOf p w A.in1 op (fun i v => #[a, b, c][i]? = some v) bt)
    (hb : #[a, b, c][PySem.argBest bt 2]? = some v')
    (h : ∀ h' tk, (∀ c o, s.heap.get? c = some o → h'.get? c = some o) → Q v' { s with heap := h', toks := tk }) :
    wpAny (model p w) A.in1 (pyIter (.ref s.heap.objs.size)) (fun it s₂ => ∃ I fp wr n P St bt, it = .ref I ∧ Walks p w A.in1 I fp wr n P St ∧ St 0 s₂.heap ∧ (∀ b ∈ fp, b < s₂.heap.objs.size) ∧ 0 < n ∧ CmpOf p w A.in1 op P bt ∧
      ∀ v h' tk, P (PySem.argBest bt (n - 1)) v → (∀ b o, b ∉ wr → s₂.heap.get? b = some o → h'.get? b = some o) → Q v { s₂ with heap := h', toks := tk }) E
      { s with heap := s.heap.push { cls := .type "tuple", data := .seq #[a, b, c] } } := by
  have hT : (s.heap.push { cls := .type "tuple", data := .seq #[a, b, c] }).IsTuple s.heap.objs.size #[a, b, c] := ⟨_, Heap.get?_push_size _ rfl, rfl, 0, rfl⟩
  have hsz : (s.heap.push { cls := .type "tuple", data := .seq #[a, b, c] }).objs.size = s.heap.objs.size + 1 := Heap.size_push ..
  refine wpAny_pyIter_tuple hT ?_
  refine ⟨_, [_, s.heap.objs.size], [_], _, _, _, bt, rfl, Walks.tuple (A := A.in1) hh _ s.heap.objs.size (by rw [hsz]; exact Nat.ne_of_lt (Nat.lt_succ_self _)) #[a, b, c],
    ⟨⟨_, Heap.get?_push_size _ rfl, rfl, rfl⟩, hT.push _⟩, ?_, by simp, hc, ?_⟩
  · intro d hd
    show d < ((s.heap.push _).push _).objs.size
    rw [Heap.size_push, hsz]
    simp only [List.mem_cons, List.not_mem_nil, or_false] at hd
    rcases hd with rfl | rfl
    · rw [hsz]; exact Nat.lt_succ_self _
    · exact Nat.lt_succ_of_lt (Nat.lt_succ_self _)
  · intro v h' tk hP hk
    have e : v = v' := Option.some.inj (hP.symm.trans hb)
    subst e
    exact h h' tk fun d o e => hk d o (fun hm => by
      have := Heap.lt_size e
      rw [List.mem_singleton.mp hm, hsz] at this
      exact Nat.lt_irrefl _ (Nat.lt_of_succ_lt this)) (Heap.get?_push_of_some _ (Heap.get?_push_of_some _ e))

theorem max3_f {x y z : UInt64} {t u v : Tok} (hh : A.handled = none)
    (h : ∀ h' tk t', (∀ c o, s.heap.get? c = some o → h'.get? c = some o) → Q (.float (best3 (fun a b => Float64.cmp b a == some .lt) x y z) t') { s with heap := h', toks := tk }) :
    wpAny (model p w) A (call (.builtin "max") [.float x t, .float y u, .float z v]) Q E s := by
  have hn : ∀ q ∈ #[Value.float x t, .float y u, .float z v], Flt.NumV q := by
    intro q hq; simp at hq; rcases hq with rfl | rfl | rfl <;> constructor
  cases h1 : (Float64.cmp x y == some .lt) <;> cases h2 : (Float64.cmp x z == some .lt) <;> cases h3 : (Float64.cmp y z == some .lt) <;>
  · simp only [best3, h1, h2, h3, if_true, if_false, Bool.false_eq_true] at h
    exact call_max_three (walk3 hh _ _ _ .Gt _ _ (Flt.cmpOf_gt _ hn) (by simp [PySem.argBest, Flt.ltV, h1, h2, h3]; rfl) fun h' tk k => h h' tk _ k)

theorem min3_f {x y z : UInt64} {t u v : Tok} (hh : A.handled = none)
    (h : ∀ h' tk t', (∀ c o, s.heap.get? c = some o → h'.get? c = some o) → Q (.float (best3 (fun a b => Float64.cmp a b == some .lt) x y z) t') { s with heap := h', toks := tk }) :
    wpAny (model p w) A (call (.builtin "min") [.float x t, .float y u, .float z v]) Q E s := by
  have hn : ∀ q ∈ #[Value.float x t, .float y u, .float z v], Flt.NumV q := by
    intro q hq; simp at hq; rcases hq with rfl | rfl | rfl <;> constructor
  cases h1 : (Float64.cmp y x == some .lt) <;> cases h2 : (Float64.cmp z x == some .lt) <;> cases h3 : (Float64.cmp z y == some .lt) <;>
  · simp only [best3, h1, h2, h3, if_true, if_false, Bool.false_eq_true] at h
    exact call_min_three (walk3 hh _ _ _ .Lt _ _ (Flt.cmpOf_lt _ hn) (by simp [PySem.argBest, Flt.ltV, h1, h2, h3]; rfl) fun h' tk k => h h' tk _ k)
end

def max3F (x y z : UInt64) : UInt64 := best3 (fun a b => Float64.cmp b a == some .lt) x y z
def min3F (x y z : UInt64) : UInt64 := best3 (fun a b => Float64.cmp a b == some .lt) x y z
section
variable {A : Around} {E : Value → Shared → Prop} {s : Shared} {Q : Value → Shared → Prop} {p : Program} {w : World} {h₀ : Heap} {L : Addr} {m : Str → Option Value} {news : List (Addr × Obj)}
theorem max3_K {x y z : UInt64} {t u v : Tok} (hh : A.handled = none) (F : Fr h₀ L s.heap m) (N : News h₀ L s.heap news)
    (h : ∀ h' tk t', Fr h₀ L h' m → News h₀ L h' news → Q (.float (max3F x y z) t') { s with heap := h', toks := tk }) :
    wpAny (model p w) A (call (.builtin "max") [.float x t, .float y u, .float z v]) Q E s := max3_f hh fun h' tk t' k => h h' tk t' (F.grownK k) (N.grown k)
theorem min3_K {x y z : UInt64} {t u v : Tok} (hh : A.handled = none) (F : Fr h₀ L s.heap m) (N : News h₀ L s.heap news)
    (h : ∀ h' tk t', Fr h₀ L h' m → News h₀ L h' news → Q (.float (min3F x y z) t') { s with heap := h', toks := tk }) :
    wpAny (model p w) A (call (.builtin "min") [.float x t, .float y u, .float z v]) Q E s := min3_f hh fun h' tk t' k => h h' tk t' (F.grownK k) (N.grown k)
end

end
end Mine

namespace Mine
section
open PySem PySem.W PyProof.Rows PySem.Calls PySem.Spec
set_option maxRecDepth 100000


local macro_rules | `(tactic| walk_at "call builtin:max") => `(tactic| (k_here; (with_unfolding_all refine' max3_K rfl ?k1 ?k2 ?_); (case k1 => k_asm); (case k2 => k_asm); intro h9 tk9 t9 F9 N9; (try dsimp only); (try k_fold)))
local macro_rules | `(tactic| walk_at "call builtin:min") => `(tactic| (k_here; (with_unfolding_all refine' min3_K rfl ?k1 ?k2 ?_); (case k1 => k_asm); (case k2 => k_asm); intro h9 tk9 t9 F9 N9; (try dsimp only); (try k_fold)))

def lumF (x y z : UInt64) : UInt64 := Float64.div (Float64.add (max3F x y z) (min3F x y z)) 4611686018427387904
def rngF (x y z : UInt64) : UInt64 := Float64.sub (max3F x y z) (min3F x y z)
def leF (x y : UInt64) : Bool := Float64.cmp x y == some Ordering.lt || Float64.cmp x y == some Ordering.eq
def topF (x y z : UInt64) : UInt64 := Float64.sub (Float64.sub 4611686018427387904 (max3F x y z)) (min3F x y z)
def restF (x y z c : UInt64) : UInt64 := Float64.div (Float64.sub (max3F x y z) c) (rngF x y z)
def rgbOk (x y z : UInt64) : Bool :=
  if (Float64.cmp (min3F x y z) (max3F x y z) == some Ordering.eq) = true then true
  else if Float64.isZero (rngF x y z) = true then false
  else if leF (lumF x y z) 4602678819172646912 = true then !Float64.isZero (Float64.add (max3F x y z) (min3F x y z))
  else !Float64.isZero (topF x y z)
def rgbF (x y z : UInt64) : UInt64 × UInt64 × UInt64 :=
  if (Float64.cmp (min3F x y z) (max3F x y z) == some Ordering.eq) = true then (0, lumF x y z, 0)
  else
    let s := if leF (lumF x y z) 4602678819172646912 = true then Float64.div (rngF x y z) (Float64.add (max3F x y z) (min3F x y z)) else Float64.div (rngF x y z) (topF x y z)
    let h := if (Float64.cmp x (max3F x y z) == some Ordering.eq) = true then Float64.sub (restF x y z z) (restF x y z y)
      else if (Float64.cmp y (max3F x y z) == some Ordering.eq) = true then Float64.sub (Float64.add 4611686018427387904 (restF x y z x)) (restF x y z z)
      else Float64.sub (Float64.add 4616189618054758400 (restF x y z y)) (restF x y z x)
    ((Float64.divmod (Float64.div h 4618441417868443648) 4607182418800017408).2, lumF x y z, s)

set_option maxHeartbeats 8000000 in
theorem rgb_says (w : World) (mean mg mb) (x y z : UInt64) (t1 t2 t3 : Tok) : Says 1 w mean mg mb 50 [.float x t1, .float y t2, .float z t3] (fun _ => rgbOk x y z = true) (Tup3 (rgbF x y z)) := by
  unfold Says KK prog
  k_fill
  intro dp un gd cn cs a ccd cl outer A₀ base h₀ L m news s Q E B F X N T hk hd hu hp hret
  refine wpAny_call ?_
  k_dflt cell_enter
  k_steps
  all_goals first
    | (refine' says_ret1 (Q := Q) (s := s) hret ?k1 ?k2 ?k3 ?k4 ?k5 ?k6; (case k1 => k_asm); (case k2 => assumption); (case k3 => exact fun p hp => .tail _ hp); (case k4 => exact .head _); (case k5 => assumption); (case k6 => refine tup3_is ?_; simp only [rgbF, leF, lumF, restF, rngF, topF, *, Bool.false_eq_true, if_false, if_true]))
    | (exfalso; simp [rgbOk, leF, lumF, restF, rngF, topF, *] at hp)

theorem rgb_use {w : World} {mean : ExcName → Option Value} {mg mb : Str → Option Value} {x y z : UInt64} {t1 t2 t3 : Tok}
    {dp un : Nat} {gd : Option (List Code)} {cn : Str} {cs : Scope} {a : Addr} {ccd : Value} {cl : List (Str × Addr)} {outer : List Env} {A₀ : Around} {base h₀ : Heap} {L : Addr} {m : Str → Option Value} {news : List (Addr × Obj)} {s : Shared} {Q E : Value → Shared → Prop}
    (B : Below A₀ base outer h₀) (F : Fr h₀ L s.heap m) (X : (KK w).In h₀) (N : News h₀ L s.heap news) (T : Top hd.view_39 loose0 mean mg mb h₀) (hk : cs.kind = .function) (hd : dp + 1 < recursionLimit) (hu : un + 8 * 1 < cLine) (hp : rgbOk x y z = true)
    (ret : ∀ D t1 t2 t3 h' tk', (∀ q ∈ news, q.1 < D) → Fr h₀ L h' m → News h₀ L h' ((D, { cls := .type "tuple", data := .seq #[.float (rgbF x y z).1 t1, .float (rgbF x y z).2.1 t2, .float (rgbF x y z).2.2 t3] }) :: news) → Q (.ref D) { s with heap := h', toks := tk' }) :
    wpAny (model prog w) (ktrTop dp un gd cn cs L a ccd cl outer) (call (.ref 50) [.float x t1, .float y t2, .float z t3]) Q E s :=
  says_use (rgb_says w mean mg mb x y z t1 t2 t3) B F X N T hk hd hu hp (fun v nx h' tk' r l F' N' => by
    obtain ⟨D, t1, t2, t3, e, e'⟩ := r
    subst e; subst e'
    exact ret D t1 t2 t3 h' tk' (fun q hq => l q hq _ (.head _)) F' N')

end
end Mine

namespace Mine
section
open PySem PySem.W PyProof.Rows PySem.Calls PySem.Spec
set_option maxRecDepth 100000

theorem pa_pat : PlainAttrs "re.Pattern" :=
  ⟨⟨"object.__getattribute__", by rw [typeLookup_type, builtinLookup_eq_fast]; kernel_rfl, by decide +kernel⟩, by rw [typeLookup_type, builtinLookup_eq_fast]; kernel_rfl⟩
theorem pa_match : PlainAttrs "re.Match" :=
  ⟨⟨"object.__getattribute__", by rw [typeLookup_type, builtinLookup_eq_fast]; kernel_rfl, by decide +kernel⟩, by rw [typeLookup_type, builtinLookup_eq_fast]; kernel_rfl⟩
theorem slot_search : Slot "re.Pattern" "search" "re.Pattern.search" :=
  .of (owner := "re.Pattern") (n := "search") (by rw [typeLookup_type, builtinLookup_eq_fast]; kernel_rfl) (by decide +kernel) (by decide +kernel) (by decide +kernel)
    (by first | exact .inl (by decide +kernel) | exact .inr (by decide +kernel)) (by rw [isSubtype_type]; kernel_rfl)
theorem slot_sub : Slot "re.Pattern" "sub" "re.Pattern.sub" :=
  .of (owner := "re.Pattern") (n := "sub") (by rw [typeLookup_type, builtinLookup_eq_fast]; kernel_rfl) (by decide +kernel) (by decide +kernel) (by decide +kernel)
    (by first | exact .inl (by decide +kernel) | exact .inr (by decide +kernel)) (by rw [isSubtype_type]; kernel_rfl)
theorem slot_group : Slot "re.Match" "group" "re.Match.group" :=
  .of (owner := "re.Match") (n := "group") (by rw [typeLookup_type, builtinLookup_eq_fast]; kernel_rfl) (by decide +kernel) (by decide +kernel) (by decide +kernel)
    (by first | exact .inl (by decide +kernel) | exact .inr (by decide +kernel)) (by rw [isSubtype_type]; kernel_rfl)
theorem type_search : typeOf (.builtin "re.Pattern.search") = pure (.type "method_descriptor") := by show builtinType _ = _; rw [builtinType_eq_fast]; kernel_rfl
theorem type_sub : typeOf (.builtin "re.Pattern.sub") = pure (.type "method_descriptor") := by show builtinType _ = _; rw [builtinType_eq_fast]; kernel_rfl
theorem type_group : typeOf (.builtin "re.Match.group") = pure (.type "method_descriptor") := by show builtinType _ = _; rw [builtinType_eq_fast]; kernel_rfl
theorem entry_search : entryFor table "re.Pattern.search" = some Builtin.«re.Pattern.search» := entryFor_of_tree (by kernel_rfl)
theorem entry_sub : entryFor table "re.Pattern.sub" = some Builtin.«re.Pattern.sub» := entryFor_of_tree (by kernel_rfl)
theorem entry_subloop : entryFor table "re.Pattern.sub.loop" = some Builtin.«re.Pattern.sub.loop» := entryFor_of_tree (by kernel_rfl)
theorem entry_group : entryFor table "re.Match.group" = some Builtin.«re.Match.group» := entryFor_of_tree (by kernel_rfl)
theorem own_pattern : Manifest.owners.lookup (String.ofList ['n', 'r', 'e', 't', 't', 'a', 'P', '.', 'e', 'r'].reverse) = some Manifest.sig_re_Pattern := by kernel_rfl
theorem own_match : Manifest.owners.lookup (String.ofList ['h', 'c', 't', 'a', 'M', '.', 'e', 'r'].reverse) = some Manifest.sig_re_Match := by kernel_rfl
theorem args_search (a b : Value) : argsOk "re.Pattern.search" ⟨[a, b], []⟩ := by
  unfold argsOk; rw [signature?_of (id := "re.Pattern.search") (n := ['h', 'c', 'r', 'a', 'e', 's']) (o := ['n', 'r', 'e', 't', 't', 'a', 'P', '.', 'e', 'r']) (by kernel_rfl) own_pattern]; kernel_rfl
theorem args_sub (a b c : Value) : argsOk "re.Pattern.sub" ⟨[a, b, c], []⟩ := by
  unfold argsOk; rw [signature?_of (id := "re.Pattern.sub") (n := ['b', 'u', 's']) (o := ['n', 'r', 'e', 't', 't', 'a', 'P', '.', 'e', 'r']) (by kernel_rfl) own_pattern]; kernel_rfl
theorem args_group (a b : Value) : argsOk "re.Match.group" ⟨[a, b], []⟩ := by
  unfold argsOk; rw [signature?_of (id := "re.Match.group") (n := ['p', 'u', 'o', 'r', 'g']) (o := ['h', 'c', 't', 'a', 'M', '.', 'e', 'r']) (by kernel_rfl) own_match]; kernel_rfl
theorem notruth1 : typeLookup (.type "re.Match") "__bool__" = pure none := by rw [typeLookup_type, builtinLookup_eq_fast]; kernel_rfl
theorem notruth2 : typeLookup (.type "re.Match") "__len__" = pure none := by rw [typeLookup_type, builtinLookup_eq_fast]; kernel_rfl

end
end Mine

namespace Mine
section
open PySem PySem.W PyProof.Rows PySem.Calls PySem.Spec PySem.Builtin.Re
set_option maxRecDepth 100000

def drive : Nat → Sre.M → Sre.M
  | 0, m => m
  | n + 1, m => let m' := m.runFor 4; if m'.outcome.isSome then m' else drive n m'

theorem runFor_done {m : Sre.M} (h : m.outcome.isSome = true) (n : Nat) : m.runFor n = m := by
  cases n with
  | zero => rfl
  | succ n => simp only [Sre.M.runFor, h, if_true]

section
variable {M : Model} {A : Around} {E : Value → Shared → Prop} {s : Shared}
theorem reDrive_ok {Q : Sre.M → Shared → Prop} : ∀ (n turns : Nat) (m : Sre.M), n < turns → (drive n m).outcome.isSome = true → Q (drive n m) s → wpAny M A (reDrive turns m) Q E s
  | n, 0, m, hn, _, _ => absurd hn (Nat.not_lt_zero _)
  | 0, k + 1, m, _, ho, hq => by
    have ho' : m.outcome.isSome = true := ho
    have hq' : Q m s := hq
    simp only [reDrive, reTurnSteps, runFor_done ho', ho', if_true]
    exact wpAny_pure hq'
  | n + 1, k + 1, m, hn, ho, hq => by
    have e0 : reDrive (k + 1) m = if (m.runFor 4).outcome.isSome = true then pure (m.runFor 4) else (rule "sre.turn" >>= fun _ => reDrive k (m.runFor 4)) := rfl
    rw [e0]
    by_cases h : (m.runFor 4).outcome.isSome = true
    · rw [if_pos h]
      have e : drive (n + 1) m = m.runFor 4 := by simp only [drive, h, if_true]
      rw [e] at hq
      exact wpAny_pure hq
    · rw [if_neg h]
      have e : drive (n + 1) m = drive n (m.runFor 4) := by simp only [drive, h, if_false]; rfl
      rw [e] at hq ho
      exact wpAny_bind (wpAny_rule (reDrive_ok n k _ (Nat.lt_of_succ_lt_succ hn) ho hq))

def reRes (n : Nat) (m : Sre.M) : Option (Option Sre.M) := match (drive n m).outcome with
  | some .matched => some (some (drive n m))
  | some .failed => some none
  | _ => none

theorem reRun_ok {m : Sre.M} {Q : Option Sre.M → Shared → Prop} (n : Nat) (hn : n < 2 ^ 64) (r : Option Sre.M) (hr : reRes n m = some r) (h : Q r s) : wpAny M A (reRunToEnd m) Q E s := by
  unfold reRunToEnd
  unfold reRes at hr
  refine wpAny_bind (reDrive_ok n _ m hn ?_ ?_)
  · cases ho : (drive n m).outcome with
    | none => rw [ho] at hr; cases hr
    | some _ => rfl
  · refine wpAny_bind (wpAny_forIn_list _ (fun _ _ s' => s' = s) _ ?_ ?_ _ _ rfl)
    · intro x rest b s' e
      subst e
      split
      · exact wpAny_bind (wpAny_rule (wpAny_pure rfl))
      · exact wpAny_pure rfl
    · intro b s' e
      subst e
      cases ho : (drive n m).outcome with
      | none => rw [ho] at hr; cases hr
      | some o =>
        rw [ho] at hr
        cases o with
        | matched => cases hr; exact wpAny_pure h
        | failed => cases hr; exact wpAny_pure h
        | stuck _ => cases hr
end

end
end Mine

namespace Mine
section
open PySem PySem.W PyProof.Rows PySem.Calls PySem.Spec PySem.Builtin.Re
set_option maxRecDepth 100000

/-- the span of a group, where the run has marked both of its ends -/
def spanAt (m : Sre.M) (g : Nat) : Int × Int :=
  if ((2 * g + 1 : Nat) : Int) ≤ m.lastmark then
    match m.marks.getD (2 * g) none, m.marks.getD (2 * g + 1) none with
    | some b, some e => ((b : Int), (e : Int))
    | _, _ => (-1, -1)
  else (-1, -1)
def spanInts (n : Nat) (m : Sre.M) : List Int := (List.range n).flatMap fun g => [(spanAt m g).1, (spanAt m g).2]
/-- no group ends ahead of its start -/
def spansOk (n : Nat) (m : Sre.M) : Bool := (List.range n).all fun g => decide ((spanAt m g).1 ≤ (spanAt m g).2)

/-- a pattern and its code, as they stand on the heap -/
structure PatAt (h : Heap) (P C : Addr) (fs its : Array Value) (code : Array Nat) (groups : Nat) : Prop where
  pat : h.get? P = some { cls := .type "re.Pattern", data := .fields fs }
  f5 : fs.getD 5 .none = .ref C
  f6 : fs.getD 6 .none = .int 0 0
  f2 : reRawNat (fs.getD 2 .none) = groups
  tup : ∃ o n, h.get? C = some o ∧ o.data = .seq its n
  is : (its.map reRawOf).map (·.toNat) = code

section
variable {prog : Program} {w : World} {A : Around} {E : Value → Shared → Prop} {s : Shared}

theorem named_search (z : Str) (t : Tok) : reNamed "re.Pattern.search" "search" ["string", "pos", "endpos"] 1 [.str z t] [] = pure [some (.str z t), none, none] := rfl

theorem target_ok {P C : Addr} {fs its : Array Value} {code : Array Nat} {groups : Nat} {z : Str} {t : Tok} {Q : ReTarget → Shared → Prop} (hp : PatAt s.heap P C fs its code groups) (hz : z.cps.size < 2 ^ 63)
    (h : Q { pattern := .ref P, string := .str z t, code, text := z.cps, kind := 0, groups, pos := 0, lim := z.cps.size } s) :
    wpAny (model prog w) A (reTarget "re.Pattern.search" "search" ⟨[.ref P, .str z t], []⟩) Q E s := by
  unfold reTarget
  dsimp only
  rw [named_search]
  refine wpAny_bind (wpAny_pure ?_)
  dsimp only
  refine wpAny_bind (wpAny_pure ?_)
  refine wpAny_bind (wpAny_pure ?_)
  refine wpAny_bind (wpAny_fieldsOf hp.pat rfl ?_)
  refine wpAny_bind (wpAny_pure ?_)
  dsimp only
  rw [hp.f6, hp.f5, hp.f2]
  obtain ⟨o, n, ho, hd⟩ := hp.tup
  rw [if_neg (by decide), if_neg (by decide)]
  refine wpAny_bind (wpAny_pure ?_)
  refine wpAny_bind ?_
  unfold reRawItems
  refine wpAny_bind (wpAny_seqItems ho hd ?_)
  refine wpAny_pure ?_
  refine wpAny_pure ?_
  have e1 : min (2 ^ 63 - 1 : Int).toNat z.cps.size = z.cps.size := by omega
  rw [e1, Option.getD_some, hp.is]
  exact h

theorem spans_eq (n : Nat) (m : Sre.M) (f : Nat → List Value) (hf : ∀ g, f g = [rawInt (spanAt m g).1, rawInt (spanAt m g).2]) : (List.range n).flatMap f = (spanInts n m).map rawInt := by
  unfold spanInts
  rw [List.map_flatMap]
  congr 1
  funext g
  exact hf g

theorem spanInts_len (n : Nat) (m : Sre.M) : (spanInts n m).length = 2 * n := by
  unfold spanInts
  induction n with
  | zero => rfl
  | succ n ih => rw [List.range_succ, List.flatMap_append, List.length_append, ih]; simp; omega
/-- the tuple of spans and the match that a search makes -/
def spanObj (n : Nat) (m : Sre.M) : Obj := { cls := .type "tuple", data := .seq (rawInt m.start :: rawInt m.handed :: (spanInts n m).map rawInt).toArray }
def matchObj (P : Addr) (z : Str) (t : Tok) (m : Sre.M) (T : Addr) : Obj := { cls := .type "re.Match", data := .fields #[.str z t, .ref P, rawInt 0, rawInt z.cps.size, rawInt m.lastindex, .ref T] }

theorem newMatch_ok {P : Addr} {z : Str} {t : Tok} {n : Nat} {m : Sre.M} {Q : Value → Shared → Prop} (hs : spansOk n m = true) (hn : n ≤ 100)
    (h : Q (.ref (s.heap.objs.size + 1)) { s with heap := (s.heap.push (spanObj n m)).push (matchObj P z t m s.heap.objs.size) }) :
    wpAny (model prog w) A (reNewMatch (.ref P) (.str z t) n 0 z.cps.size m) Q E s := by
  unfold reNewMatch
  dsimp only
  rw [spans_eq n m _ (fun g => ?hf)]
  case hf =>
    unfold spanAt
    by_cases h : ((2 * g + 1 : Nat) : Int) ≤ m.lastmark
    · rw [if_pos h, if_pos h]
      cases m.marks.getD (2 * g) none <;> cases m.marks.getD (2 * g + 1) none <;> rfl
    · rw [if_neg h, if_neg h]
  rw [if_neg ?_]
  · refine wpAny_bind (wpAny_newObj_type ?_ ?_)
    · refine wpAny_newObj_type ?_ ?_
      · have e : (s.heap.push (spanObj n m)).objs.size = s.heap.objs.size + 1 := Heap.size_push ..
        have h' := h
        rw [← e] at h'
        exact h'
      · show 6 ≤ sizeLine + 2
        decide
    · show (rawInt m.start :: rawInt m.handed :: (spanInts n m).map rawInt).toArray.size ≤ sizeLine
      rw [List.size_toArray, List.length_cons, List.length_cons, List.length_map, spanInts_len]
      unfold sizeLine
      omega
  · rw [Bool.not_eq_true, List.any_eq_false]
    intro g hg
    have := (List.all_eq_true.mp hs) g hg
    rw [decide_eq_true_eq] at this
    unfold spanAt at this
    by_cases h : ((2 * g + 1 : Nat) : Int) ≤ m.lastmark
    · rw [if_pos h] at this
      cases h1 : m.marks.getD (2 * g) none with
      | none => exact Bool.false_ne_true
      | some b =>
        cases h2 : m.marks.getD (2 * g + 1) none with
        | none => exact Bool.false_ne_true
        | some e =>
          rw [h1, h2] at this
          dsimp only at this ⊢
          simp only [Bool.and_eq_true, decide_eq_true_eq, not_and]
          omega
    · cases h1 : m.marks.getD (2 * g) none with
      | none => exact Bool.false_ne_true
      | some b =>
        cases h2 : m.marks.getD (2 * g + 1) none with
        | none => exact Bool.false_ne_true
        | some e =>
          dsimp only
          simp only [Bool.and_eq_true, decide_eq_true_eq, not_and]
          exact fun q => absurd q h

/-- a search in a text -/
theorem search_ok {P C : Addr} {fs its : Array Value} {code : Array Nat} {groups : Nat} {z : Str} {t : Tok} {Q : Value → Shared → Prop} (hp : PatAt s.heap P C fs its code groups) (hg : groups ≤ 100) (hz : z.cps.size < 2 ^ 63) (k : Nat) (hk : k < 2 ^ 64) (r : Option Sre.M)
    (hr : reRes k (Sre.forSearch code z.cps groups 0 z.cps.size false) = some r) (hs : ∀ m, r = some m → spansOk groups m = true)
    (h0 : r = none → Q .none s)
    (h1 : ∀ m, r = some m → Q (.ref (s.heap.objs.size + 1)) { s with heap := (s.heap.push (spanObj groups m)).push (matchObj P z t m s.heap.objs.size) }) :
    wpAny (model prog w) A (call (.builtin "re.Pattern.search") [.ref P, .str z t]) Q E s := by
  have hT : s.TypeIs (.ref P) "re.Pattern" := ⟨_, hp.pat, rfl⟩
  refine wpAny_call (codeAny_call_builtin slot_search.plain entry_search (slot_search.check _ _ _ _ _ _ _ _ hT (args_search _ _) ?_))
  unfold Builtin.«re.Pattern.search»
  refine wpAny_bind (target_ok hp hz ?_)
  unfold reAnswer
  refine wpAny_bind (reRun_ok k hk r hr ?_)
  cases r with
  | none => exact wpAny_pure (h0 rfl)
  | some m => exact wpAny_bind (newMatch_ok (hs m rfl) hg (wpAny_pure (h1 m rfl)))

theorem spanInts_get (n : Nat) (m : Sre.M) (g : Nat) (hg : g < n) : (spanInts n m)[2 * g]? = some (spanAt m g).1 ∧ (spanInts n m)[2 * g + 1]? = some (spanAt m g).2 := by
  induction n with
  | zero => exact absurd hg (Nat.not_lt_zero _)
  | succ n ih =>
    have e : spanInts (n + 1) m = spanInts n m ++ [(spanAt m n).1, (spanAt m n).2] := by
      unfold spanInts
      rw [List.range_succ, List.flatMap_append]; simp
    rw [e]
    have hl := spanInts_len n m
    by_cases h : g < n
    · obtain ⟨h1, h2⟩ := ih h
      rw [List.getElem?_append_left (by omega), List.getElem?_append_left (by omega)]
      exact ⟨h1, h2⟩
    · have : g = n := by omega
      subst this
      rw [List.getElem?_append_right (by omega), List.getElem?_append_right (by omega), hl]
      have e1 : 2 * g - 2 * g = 0 := by omega
      have e2 : 2 * g + 1 - 2 * g = 1 := by omega
      rw [e1, e2]
      exact ⟨rfl, rfl⟩

/-- a match as it stands on the heap -/
structure MatchAt (h : Heap) (M T : Addr) (z : Str) (t : Tok) (P : Addr) (n : Nat) (m : Sre.M) : Prop where
  obj : h.get? M = some (matchObj P z t m T)
  tup : h.get? T = some (spanObj n m)

def grpVal (z : Str) (x : Int × Int) : Option Str := if x.1 < 0 ∨ x.2 < 0 then none else some ⟨z.cps.extract x.1.toNat x.2.toNat⟩

theorem found_ok {M T P : Addr} {z : Str} {t : Tok} {n : Nat} {m : Sre.M} {Q : ReFound → Shared → Prop} (hm : MatchAt s.heap M T z t P n m)
    (h : Q ⟨#[.str z t, .ref P, rawInt 0, rawInt z.cps.size, rawInt m.lastindex, .ref T], ((m.start : Int) :: (m.handed : Int) :: spanInts n m).toArray⟩ s) :
    wpAny (model prog w) A (reFound (.ref M)) Q E s := by
  unfold reFound
  refine wpAny_bind (wpAny_fieldsOf hm.obj rfl ?_)
  refine wpAny_bind ?_
  unfold reRawItems
  refine wpAny_bind (wpAny_seqItems (o := spanObj n m) hm.tup rfl ?_)
  refine wpAny_pure (wpAny_pure ?_)
  have e : Array.map reRawOf (Option.getD (some (rawInt m.start :: rawInt m.handed :: (spanInts n m).map rawInt).toArray) #[]) = ((m.start : Int) :: (m.handed : Int) :: spanInts n m).toArray := by
    rw [Option.getD_some, List.map_toArray, List.map_cons, List.map_cons, List.map_map]
    congr 3
    have : (reRawOf ∘ rawInt) = id := by funext x; rfl
    rw [this, List.map_id]
  rw [e]
  exact h

theorem group_ok {M T P : Addr} {z : Str} {t u : Tok} {n : Nat} {m : Sre.M} {g : Nat} {Q : Value → Shared → Prop} (hm : MatchAt s.heap M T z t P n m) (hg : g < n) (hz : z.cps.size ≤ sizeLine)
    (hn : grpVal z (spanAt m g) = none → Q .none s)
    (hsm : ∀ x, grpVal z (spanAt m g) = some x → Q (.str x s.toks) { s with toks := s.toks + 1 }) :
    wpAny (model prog w) A (call (.builtin "re.Match.group") [.ref M, .int ((g + 1 : Nat) : Int) u]) Q E s := by
  have hT : s.TypeIs (.ref M) "re.Match" := ⟨_, hm.obj, rfl⟩
  refine wpAny_call (codeAny_call_builtin slot_group.plain entry_group (slot_group.check _ _ _ _ _ _ _ _ hT (args_group _ _) ?_))
  unfold Builtin.«re.Match.group»
  refine wpAny_bind (wpAny_of_eq (show noKeywords "Match.group" ⟨[.ref M, .int ((g + 1 : Nat) : Int) u], []⟩ = pure () from rfl) ?_)
  refine wpAny_bind (found_ok hm ?_)
  dsimp only
  refine wpAny_bind ?_
  have hlen := spanInts_len n m
  unfold reGroupNumber
  refine wpAny_bind (wpAny_pure ?_)
  dsimp only [Option.isSome_some]
  rw [if_pos rfl]
  refine wpAny_bind ?_
  unfold asIndex
  refine wpAny_bind (wpAny_pure ?_)
  refine wpAny_pure ?_
  rw [if_neg ?_]
  · refine wpAny_pure ?_
    refine wpAny_bind ?_
    unfold reGroupText
    dsimp only
    obtain ⟨h1, h2⟩ := spanInts_get n m g hg
    have e0 : (((g + 1 : Nat) : Int)).toNat = g + 1 := by omega
    have e1 : (((m.start : Int) :: (m.handed : Int) :: spanInts n m).toArray).getD (2 * (((g + 1 : Nat) : Int)).toNat) (-1) = (spanAt m g).1 := by
      rw [e0, Array.getD_eq_getD_getElem?, List.getElem?_toArray]
      show (((m.start : Int) :: (m.handed : Int) :: spanInts n m)[2 * g + 1 + 1]?).getD (-1) = _
      rw [List.getElem?_cons_succ, List.getElem?_cons_succ, h1]; rfl
    have e2 : (((m.start : Int) :: (m.handed : Int) :: spanInts n m).toArray).getD (2 * (((g + 1 : Nat) : Int)).toNat + 1) (-1) = (spanAt m g).2 := by
      rw [e0, Array.getD_eq_getD_getElem?, List.getElem?_toArray]
      show (((m.start : Int) :: (m.handed : Int) :: spanInts n m)[2 * g + 1 + 1 + 1]?).getD (-1) = _
      rw [List.getElem?_cons_succ, List.getElem?_cons_succ, h2]; rfl
    rw [e1, e2]
    unfold grpVal at hn hsm
    by_cases hc : (spanAt m g).1 < 0 ∨ (spanAt m g).2 < 0
    · rw [if_pos hc] at hn
      rw [if_pos (by simpa using hc)]
      exact wpAny_pure (wpAny_pure (hn rfl))
    · rw [if_neg hc] at hsm
      rw [if_neg (by simpa using hc)]
      show wpAny _ _ (reTextOf (.str z t) >>= _) _ _ _
      refine wpAny_bind (wpAny_pure ?_)
      show wpAny _ _ (mkStr ⟨z.cps.extract (spanAt m g).1.toNat (spanAt m g).2.toNat⟩) _ _ _
      refine wpAny_mkStr (wpAny_pure (hsm _ rfl)) ?_
      show (z.cps.extract (spanAt m g).1.toNat (spanAt m g).2.toNat).size ≤ sizeLine
      rw [Array.size_extract]
      omega
  · simp only [List.size_toArray, List.length_cons, hlen, Bool.or_eq_true, decide_eq_true_eq]
    omega
end

end
end Mine

namespace Mine
section
open PySem PySem.W PyProof.Rows PySem.Calls PySem.Spec
set_option maxRecDepth 100000

theorem runs_toks {M : Model} {Γ : PySem.Ctx} {p : Pos} {t : Sem Fin} {fs : List Frame} {s s' : Shared} {e : End} (h : Runs M Γ p t fs s e s') : s.toks ≤ s'.toks := by
  induction h <;> first
    | exact Nat.le_refl _
    | assumption
    | ((try simp only [Shared.setGen] at *); omega)

theorem wp_toks {α : Type} (M : Model) (Γ : PySem.Ctx) : ∀ (t : Sem α) (Q : α → Pos → Shared → Prop) (E : Value → Pos → Shared → Prop) (p : Pos) (s : Shared) (n : Nat), n ≤ s.toks →
    Sem.wp M Γ t (fun a p' s' => n ≤ s'.toks → Q a p' s') (fun a p' s' => n ≤ s'.toks → E a p' s') p s → Sem.wp M Γ t Q E p s := by
  intro t
  induction t with
  | pure a => intro Q E p s n hn h; simp only [Sem.wp] at h ⊢; exact h hn
  | raise e => intro Q E p s n hn h; simp only [Sem.wp] at h ⊢; exact h hn
  | unsupported => intro Q E p s n hn h; simp only [Sem.wp] at h
  | finish => intro Q E p s n hn h; simp only [Sem.wp] at h
  | rule _ k ih => intro Q E p s n hn h; simp only [Sem.wp] at h ⊢; exact ih _ _ _ _ _ _ hn h
  | «at» _ k ih => intro Q E p s n hn h; simp only [Sem.wp] at h ⊢; exact ih _ _ _ _ _ _ hn h
  | load a _ k ih => intro Q E p s n hn h; simp only [Sem.wp] at h ⊢; obtain ⟨o, ho, h⟩ := h; exact ⟨o, ho, ih _ _ _ _ _ _ hn h⟩
  | update a _ f k ih => intro Q E p s n hn h; simp only [Sem.wp] at h ⊢; exact ⟨h.1, ih _ _ _ _ _ _ hn h.2⟩
  | alloc o k ih => intro Q E p s n hn h; simp only [Sem.wp] at h ⊢; exact ih _ _ _ _ _ _ hn h
  | loadIfAlive a k ih => intro Q E p s n hn h; simp only [Sem.wp] at h ⊢; exact ih _ _ _ _ _ _ hn h
  | point _ k ih => intro Q E p s n hn h; simp only [Sem.wp] at h ⊢; exact ih _ _ _ _ _ _ hn h
  | register => intro Q E p s n hn h; simp only [Sem.wp] at h
  | fresh k ih => intro Q E p s n hn h; simp only [Sem.wp] at h ⊢; exact ih _ _ _ _ _ _ (Nat.le_succ_of_le hn) h
  | ask k ih => intro Q E p s n hn h; simp only [Sem.wp] at h ⊢; exact ih _ _ _ _ _ _ hn h
  | choose src m k ih => intro Q E p s n hn h; simp only [Sem.wp] at h ⊢; exact ⟨h.1, ih _ _ _ _ _ _ hn h.2⟩
  | os q _ k ih => intro Q E p s n hn h; simp only [Sem.wp] at h ⊢; exact ih _ _ _ _ _ _ hn h
  | call c hd g l k ih =>
    intro Q E p s n hn h; simp only [Sem.wp] at h ⊢
    obtain ⟨r, s', hr, h⟩ := h
    exact ⟨r, s', hr, ih _ _ _ _ _ _ (Nat.le_trans hn (runs_toks hr)) h⟩
  | handled own k ih => intro Q E p s n hn h; simp only [Sem.wp] at h ⊢; exact ih _ _ _ _ _ _ hn h
  | newGen c k ih => intro Q E p s n hn h; simp only [Sem.wp] at h ⊢; exact ih _ _ _ _ _ _ hn h
  | genState g k ih => intro Q E p s n hn h; simp only [Sem.wp] at h ⊢; obtain ⟨o, ho, h⟩ := h; exact ⟨o, ho, ih _ _ _ _ _ _ hn h⟩
  | resume g r _ k ih =>
    intro Q E p s n hn h; simp only [Sem.wp] at h ⊢
    obtain ⟨res, s', hr, h⟩ := h
    refine ⟨res, s', hr, ih _ _ _ _ _ _ (Nat.le_trans hn ?_) h⟩
    unfold Wakes at hr
    split at hr
    · exact hr.elim
    · split at hr
      · obtain ⟨e₁, s₁, h1, _, _, rfl⟩ := hr
        have h2 := runs_toks h1
        simp only [Shared.setGen] at h2 ⊢
        exact h2
      · rw [hr.2]; exact Nat.le_refl _
      · rw [hr.2]; exact Nat.le_refl _
    · obtain ⟨e₁, s₁, h1, _, _, rfl⟩ := hr
      have h2 := runs_toks h1
      simp only [Shared.setGen] at h2 ⊢
      exact h2
    · rw [hr.2]; exact Nat.le_refl _
    · rw [hr.2]; exact Nat.le_refl _
  | yield => intro Q E p s n hn h; simp only [Sem.wp] at h
  | stack k ih => intro Q E p s n hn h; simp only [Sem.wp] at h ⊢; exact ih _ _ _ _ _ _ hn h
  | fork => intro Q E p s n hn h; simp only [Sem.wp] at h
  | thread k ih => intro Q E p s n hn h; simp only [Sem.wp] at h ⊢; exact ih _ _ _ _ _ _ hn h
  | await => intro Q E p s n hn h; simp only [Sem.wp] at h

section
variable {M : Model} {A : Around}
/-- the count of made values never falls -/
theorem any_toks {α : Type} {t : Sem α} {Q : α → Shared → Prop} {E : Value → Shared → Prop} {s : Shared} (h : wpAny M A t (fun a s' => s.toks ≤ s'.toks → Q a s') (fun a s' => s.toks ≤ s'.toks → E a s') s) : wpAny M A t Q E s :=
  fun Γ p hΓ => wp_toks M Γ t _ _ p s s.toks (Nat.le_refl _) (h Γ p hΓ)
theorem execs_pos {st : Stmt} {rest : List Stmt} {env : Env} {Q : Flow → Shared → Prop} {E : Value → Shared → Prop} {h : Heap} {g : Array GenState} {d : Drawn} {X : Nat} {os : OsState} (hX : 0 < X)
    (k : wpAny M A (exec st env) (fun f s' => match f with | .next => (0 < s'.toks → wpAny M A (execs rest env) Q E s') | f => Q f s') E ⟨h, g, d, X, os⟩) :
    wpAny M A (execs (st :: rest) env) Q E ⟨h, g, d, X, os⟩ := by
  refine wpAny_execs_cons (any_toks (wpAny_mono k ?_ fun _ _ x _ => x))
  intro f s' hf hle
  cases f with
  | next => exact hf (Nat.lt_of_lt_of_le hX hle)
  | brk => exact hf
  | cont => exact hf
  | ret v => exact hf
theorem arrow_pos {α : Type} {t : Sem α} {Q : α → Shared → Prop} {E : Value → Shared → Prop} {h : Heap} {g : Array GenState} {d : Drawn} {X : Nat} {os : OsState} (k : ∀ tk, 0 < tk → wpAny M A t Q E ⟨h, g, d, tk, os⟩) :
    0 < (⟨h, g, d, X, os⟩ : Shared).toks → wpAny M A t Q E ⟨h, g, d, X, os⟩ := k X
end

end
end Mine

namespace Mine
section
open PySem PySem.W PyProof.Rows PySem.Calls PySem.Spec PySem.Builtin.Re
set_option maxRecDepth 100000

/-- the words of the pattern at address 70 -/
def tzCode : Array Nat := #[14, 4, 0, 1, 6, 6, 0, 23, 14, 0, 1, 17, 0, 13, 6, 16, 45, 16, 43, 0, 17, 1, 18, 17, 2, 13, 4, 8, 0, 0, 24, 9, 0, 1, 13, 4, 8, 0, 0, 1, 17, 3, 24, 6, 0, 1, 16, 58, 1, 23, 17, 0, 1, 17, 4, 13, 4, 8, 0, 0, 13, 4, 8, 0, 0, 17, 5, 18, 6, 5, 1]
theorem pat_tz {w : World} {h : Heap} (X : (KK w).In h) : ∃ fs its, PatAt h 70 69 fs its tzCode 3 :=
  ⟨_, _, X 70 _ rfl, rfl, rfl, rfl, ⟨_, _, X 69 _ rfl, rfl⟩, by kernel_rfl⟩
def tzRun (z : Str) : Option Sre.M := match reRes 40 (Sre.forSearch tzCode z.cps 3 0 z.cps.size false) with
  | some (some m) => if spansOk 3 m = true then some m else none
  | _ => none

section
variable {prog : Program} {w : World} {A : Around} {E : Value → Shared → Prop} {s : Shared} {h₀ : Heap} {L : Addr} {mm : Str → Option Value} {news : List (Addr × Obj)}
theorem getSearch_K {pl : Sem Bool} {Q : Value × List Value → Shared → Prop} (X : (KK w).In h₀) (F : Fr h₀ L s.heap mm) (h : Q (.builtin "re.Pattern.search", [.ref 70]) s) : wpAny (model prog w) A (getMethod (.ref 70) (Str.ofString "search") pl) Q E s := by
  obtain ⟨fs, its, P⟩ := pat_tz (X.keeps F.keep)
  exact getMethod_builtin ⟨_, P.pat, rfl⟩ pa_pat slot_search type_search (fun a e => by cases e; exact ⟨_, P.pat, rfl⟩) h
theorem search_K {z : Str} {t : Tok} {m : Sre.M} {Q : Value → Shared → Prop} (hm : tzRun z = some m) (X : (KK w).In h₀) (F : Fr h₀ L s.heap mm) (N : News h₀ L s.heap news) (hz : z.cps.size < 2 ^ 63)
    (h : ∀ D h', Fr h₀ L h' mm → News h₀ L h' ((D + 1, matchObj 70 z t m D) :: (D, spanObj 3 m) :: news) → Q (.ref (D + 1)) { s with heap := h' }) :
    wpAny (model prog w) A (call (.builtin "re.Pattern.search") [.ref 70, .str z t]) Q E s := by
  obtain ⟨fs, its, P⟩ := pat_tz (X.keeps F.keep)
  unfold tzRun at hm
  split at hm
  · rename_i m' hr
    split at hm
    · rename_i hs
      cases hm
      refine search_ok P (by decide) hz 40 (by decide) (some m) hr (fun m' e => by cases e; exact hs) (fun e => nomatch e) (fun m' e => ?_)
      cases e
      have F1 := F.push (spanObj 3 m)
      have N1 := N.push F (spanObj 3 m)
      have N2 := N1.push F1 (matchObj 70 z t m s.heap.objs.size)
      have e1 : (s.heap.push (spanObj 3 m)).objs.size = s.heap.objs.size + 1 := Heap.size_push ..
      rw [e1] at N2
      exact h _ _ (F1.push _) N2
    · cases hm
  · cases hm

theorem getGroup_K {M T P : Addr} {z : Str} {t : Tok} {m : Sre.M} {pl : Sem Bool} {Q : Value × List Value → Shared → Prop} (N : News h₀ L s.heap news) (h1 : (M, matchObj P z t m T) ∈ news) (h : Q (.builtin "re.Match.group", [.ref M]) s) : wpAny (model prog w) A (getMethod (.ref M) (Str.ofString "group") pl) Q E s :=
  getMethod_builtin ⟨_, N.get h1, rfl⟩ pa_match slot_group type_group (fun a e => by cases e; exact ⟨_, N.get h1, rfl⟩) h
theorem group_K {M T P : Addr} {z : Str} {t u : Tok} {m : Sre.M} {g : Nat} {x : Option Str} {Q : Value → Shared → Prop} (hx : grpVal z (spanAt m g) = x) (N : News h₀ L s.heap news) (h1 : (M, matchObj P z t m T) ∈ news) (h2 : (T, spanObj 3 m) ∈ news) (hg : g < 3) (hz : z.cps.size ≤ sizeLine)
    (hn : x = none → Q .none s) (hs : ∀ y, x = some y → Q (.str y s.toks) { s with toks := s.toks + 1 }) :
    wpAny (model prog w) A (call (.builtin "re.Match.group") [.ref M, .int ((g + 1 : Nat) : Int) u]) Q E s :=
  group_ok (n := 3) ⟨N.get h1, N.get h2⟩ hg hz (fun e => hn (hx.symm.trans e)) (fun y e => hs y (hx.symm.trans e))
theorem group1_some {M T P : Addr} {z y : Str} {t u : Tok} {m : Sre.M} {Q : Value → Shared → Prop} (hx : grpVal z (spanAt m 0) = some y) (N : News h₀ L s.heap news) (h1 : (M, matchObj P z t m T) ∈ news) (h2 : (T, spanObj 3 m) ∈ news) (hz : z.cps.size ≤ sizeLine)
    (h : Q (.str y s.toks) { s with toks := s.toks + 1 }) : wpAny (model prog w) A (call (.builtin "re.Match.group") [.ref M, .int 1 u]) Q E s :=
  group_K (g := 0) hx N h1 h2 (by decide) hz (fun e => nomatch e) (fun y' e => by cases e; exact h)
theorem group1_none {M T P : Addr} {z : Str} {t u : Tok} {m : Sre.M} {Q : Value → Shared → Prop} (hx : grpVal z (spanAt m 0) = none) (N : News h₀ L s.heap news) (h1 : (M, matchObj P z t m T) ∈ news) (h2 : (T, spanObj 3 m) ∈ news) (hz : z.cps.size ≤ sizeLine)
    (h : Q .none s) : wpAny (model prog w) A (call (.builtin "re.Match.group") [.ref M, .int 1 u]) Q E s :=
  group_K (g := 0) hx N h1 h2 (by decide) hz (fun _ => h) (fun y' e => nomatch e)
theorem group2_some {M T P : Addr} {z y : Str} {t u : Tok} {m : Sre.M} {Q : Value → Shared → Prop} (hx : grpVal z (spanAt m 1) = some y) (N : News h₀ L s.heap news) (h1 : (M, matchObj P z t m T) ∈ news) (h2 : (T, spanObj 3 m) ∈ news) (hz : z.cps.size ≤ sizeLine)
    (h : Q (.str y s.toks) { s with toks := s.toks + 1 }) : wpAny (model prog w) A (call (.builtin "re.Match.group") [.ref M, .int 2 u]) Q E s :=
  group_K (g := 1) hx N h1 h2 (by decide) hz (fun e => nomatch e) (fun y' e => by cases e; exact h)
theorem group3_some {M T P : Addr} {z y : Str} {t u : Tok} {m : Sre.M} {Q : Value → Shared → Prop} (hx : grpVal z (spanAt m 2) = some y) (N : News h₀ L s.heap news) (h1 : (M, matchObj P z t m T) ∈ news) (h2 : (T, spanObj 3 m) ∈ news) (hz : z.cps.size ≤ sizeLine)
    (h : Q (.str y s.toks) { s with toks := s.toks + 1 }) : wpAny (model prog w) A (call (.builtin "re.Match.group") [.ref M, .int 3 u]) Q E s :=
  group_K (g := 2) hx N h1 h2 (by decide) hz (fun e => nomatch e) (fun y' e => by cases e; exact h)
theorem group3_none {M T P : Addr} {z : Str} {t u : Tok} {m : Sre.M} {Q : Value → Shared → Prop} (hx : grpVal z (spanAt m 2) = none) (N : News h₀ L s.heap news) (h1 : (M, matchObj P z t m T) ∈ news) (h2 : (T, spanObj 3 m) ∈ news) (hz : z.cps.size ≤ sizeLine)
    (h : Q .none s) : wpAny (model prog w) A (call (.builtin "re.Match.group") [.ref M, .int 3 u]) Q E s :=
  group_K (g := 2) hx N h1 h2 (by decide) hz (fun _ => h) (fun y' e => nomatch e)
/-- a match is true -/
theorem truthy_K {M T P : Addr} {z : Str} {t : Tok} {m : Sre.M} {Q : Bool → Shared → Prop} (N : News h₀ L s.heap news) (h1 : (M, matchObj P z t m T) ∈ news) (h : Q true s) : wpAny (model prog w) A (truthy (.ref M)) Q E s := by
  have hT : s.TypeIs (.ref M) "re.Match" := ⟨_, N.get h1, rfl⟩
  unfold truthy
  refine wpAny_bind ?_
  unfold callSpecial?
  refine wpAny_bind (wpAny_specialOf hT notruth1 (wpAny_pure ?_))
  refine wpAny_bind (wpAny_specialOf hT notruth2 ?_)
  exact wpAny_pure h
end

end
end Mine

namespace Mine
section
open PySem PySem.W PyProof.Rows PySem.Calls PySem.Spec
set_option maxRecDepth 100000

local macro_rules | `(tactic| walk_at "execs cons") => `(tactic| (k_here; (refine' execs_pos ?kx ?_); (case kx => first | assumption | omega | (simp only [List.length_cons, List.length_nil]; omega)); k_whole; (try dsimp only); (try k_fold)))
local macro_rules | `(tactic| walk_at "forall") => `(tactic| (k_here; (refine' arrow_pos ?_); k_whole; intro tk9 htk9; (try dsimp only)))

theorem rep_minus : Txt.replace (Str.ofString "-") (Str.ofString "+") (Str.ofString "") = Str.ofString "-" := by decide +kernel
theorem rep_plus : Txt.replace (Str.ofString "+") (Str.ofString "+") (Str.ofString "") = Str.ofString "" := by decide +kernel
local macro_rules | `(tactic| walk_at "call builtin:str.replace") => `(tactic| (k_here; (refine' SC.replaceW ?ka ?kb ?kc ?kd ?ke ?kf ?_); (case ka => (show @Ne Nat _ _); omega); (case kb => (show @Ne Nat _ _); omega); (case kc => (show @Ne Nat _ _); omega); (case kd => decide); (case ke => decide); (case kf => decide); k_whole; intro t9 tk9; (try dsimp only); (first | rw [rep_minus] | rw [rep_plus] | skip); (try k_fold)))

def dg (k : Int) : Str := Str.ofString (toString k)
def zoneF (n d : Int) : Str :=
  let a := if n < 0 then -n else n
  let hour := dg ((a.fdiv 60).fdiv 10) ++ dg ((a.fdiv 60).fmod 10)
  let part := dg ((a.fmod 60).fdiv 10) ++ dg ((a.fmod 60).fmod 10)
  if d = 0 then (if n < 0 then Str.ofString "-" else Str.ofString "+") ++ hour ++ Str.ofString ":" ++ part
  else if d = 1 then (if n < 0 then Str.ofString "-" else Str.ofString "") ++ hour ++ part
  else if d = 2 then (if n < 0 then Str.ofString "-" else Str.ofString "+") ++ dg (a.fdiv 60) ++ Str.ofString ":" ++ part
  else if n = 0 then Str.ofString "GMT"
  else (if n < 0 then Str.ofString "-" else Str.ofString "+") ++ hour ++ (if a.fmod 60 = 0 then Str.ofString "" else part)

theorem st_is {b b' : Str} {t : Tok} (e : b = b') : ∃ t', Value.str b t = .str b' t' := ⟨t, by rw [e]⟩
set_option maxHeartbeats 8000000 in
theorem zone_says (w : World) (mean mg mb) (n d : Int) (t1 t2 : Tok) (hn : -3000 ≤ n ∧ n ≤ 3000) : Says 1 w mean mg mb 91 [.int n t1, .int d t2] (fun _ => True) (fun v nx => nx = [] ∧ ∃ t, v = .str (zoneF n d) t) := by
  unfold Says KK prog
  k_fill
  intro dp un gd cn cs a ccd cl outer A₀ base h₀ L m news s Q E B F X N T hk hd hu hp hret
  refine wpAny_call ?_
  k_dflt cell_enter
  k_steps
  all_goals (refine' says_ret0 (Q := Q) (s := s) hret ?k1 ?k2 ?k3 ?k4; (case k1 => k_asm); (case k2 => assumption); (case k3 => first | exact fun p hp => hp | exact fun p hp => .tail _ hp | exact fun p hp => .tail _ (.tail _ hp)); (case k4 => refine ⟨rfl, st_is ?_⟩; (unfold zoneF dg); first | (simp only [*, if_true, if_false]; done) | (simp [*]; done) | (rename (Int.fmod _ 60 ≠ 0) => hr; simp only [hr, if_false]; simp [*]; done) | (rename (Int.fmod _ 60 = 0) => hr; simp only [hr, if_true]; simp [*]; done)))

theorem zone_use {w : World} {mean : ExcName → Option Value} {mg mb : Str → Option Value} {n d : Int} {t1 t2 : Tok} (hn : -3000 ≤ n ∧ n ≤ 3000)
    {dp un : Nat} {gd : Option (List Code)} {cn : Str} {cs : Scope} {a : Addr} {ccd : Value} {cl : List (Str × Addr)} {outer : List Env} {A₀ : Around} {base h₀ : Heap} {L : Addr} {m : Str → Option Value} {news : List (Addr × Obj)} {s : Shared} {Q E : Value → Shared → Prop}
    (B : Below A₀ base outer h₀) (F : Fr h₀ L s.heap m) (X : (KK w).In h₀) (N : News h₀ L s.heap news) (T : Top hd.view_39 loose0 mean mg mb h₀) (hk : cs.kind = .function) (hd : dp + 1 < recursionLimit) (hu : un + 8 * 1 < cLine)
    (ret : ∀ t h' tk', Fr h₀ L h' m → News h₀ L h' news → Q (.str (zoneF n d) t) { s with heap := h', toks := tk' }) :
    wpAny (model prog w) (ktrTop dp un gd cn cs L a ccd cl outer) (call (.ref 91) [.int n t1, .int d t2]) Q E s :=
  says_use (zone_says w mean mg mb n d t1 t2 hn) B F X N T hk hd hu trivial (fun v nx h' tk' r _ F' N' => by
    obtain ⟨e, t, e'⟩ := r
    subst e; subst e'
    exact ret t h' tk' F' N')

end
end Mine

namespace Mine
section
open PySem PySem.W PyProof.Rows PySem.Calls PySem.Spec
set_option maxRecDepth 100000

def inZones (z : Str) : Bool := decide (z = ⟨#[71, 77, 84]⟩) || (decide (z = ⟨#[85, 84, 67]⟩) || (decide (z = ⟨#[85, 84]⟩) || (decide (z = ⟨#[90]⟩) || false)))
/-- a text of two figures at most -/
def smallInt? (y : Str) : Option Int := match PySem.intText? y with
  | none => none
  | some h => if 0 ≤ h ∧ h ≤ 99 ∧ 1 ≤ y.length ∧ y.length ≤ 2 then some h else none
theorem small_is {y : Str} {h : Int} (e : smallInt? y = some h) : PySem.intText? y = some h ∧ 0 ≤ h ∧ h ≤ 99 ∧ 1 ≤ y.length ∧ y.length ≤ 2 := by
  unfold smallInt? at e
  split at e
  · cases e
  · rename_i k hk
    split at e
    · rename_i hb
      cases e
      exact ⟨hk, hb⟩
    · cases e
/-- the offset that a zone tells, where it tells one -/
def tzF (z : Str) : Option Int :=
  if inZones z = true then some 0
  else match tzRun z with
    | none => none
    | some m => match grpVal z (spanAt m 1) with
      | none => none
      | some y => match smallInt? y with
        | none => none
        | some h => match grpVal z (spanAt m 2) with
          | none => some (if grpVal z (spanAt m 0) = some (Str.ofString "-") then -(3600 * h) else 3600 * h)
          | some y3 => match smallInt? y3 with
            | none => none
            | some k => some (if grpVal z (spanAt m 0) = some (Str.ofString "-") then -(3600 * h + 60 * k) else 3600 * h + 60 * k)

local macro_rules | `(tactic| walk_at "getMethod ref") => `(tactic| (k_here; k_dflt (first | ((with_reducible show wpAny _ _ (getMethod (Value.ref 70) _ _) _ _ _); refine' getSearch_K ?k1 ?k2 ?_; (case k1 => k_asm); (case k2 => k_asm)) | (refine' getGroup_K ?k1 ?k2 ?_; (case k1 => k_asm); (case k2 => k_mem)); k_whole; (try dsimp only))))
local macro_rules | `(tactic| walk_at "call builtin:re.Pattern.search") => `(tactic| (k_here; k_dflt ((refine' search_K ?k0 ?k1 ?k2 ?k3 ?k4 ?_); (case k0 => assumption); (case k1 => k_asm); (case k2 => k_asm); (case k3 => k_asm); (case k4 => omega); k_whole; intro D9 h9 F9 N9; (try dsimp only); (try k_fold))))
local macro_rules | `(tactic| walk_at "call builtin:re.Match.group") => `(tactic| (k_here; (try dsimp only [List.cons_append, List.nil_append]); k_dflt (first
  | ((with_reducible show wpAny _ _ (PySem.call _ [_, Value.int 2 _]) _ _ _); refine' group2_some ?k0 ?k1 ?k2 ?k3 ?k4 ?_; (case k0 => assumption); (case k1 => k_asm); (case k2 => k_mem); (case k3 => k_mem); (case k4 => assumption))
  | ((with_reducible show wpAny _ _ (PySem.call _ [_, Value.int 3 _]) _ _ _); refine' group3_some ?k0 ?k1 ?k2 ?k3 ?k4 ?_; (case k0 => assumption); (case k1 => k_asm); (case k2 => k_mem); (case k3 => k_mem); (case k4 => assumption))
  | ((with_reducible show wpAny _ _ (PySem.call _ [_, Value.int 3 _]) _ _ _); refine' group3_none ?k0 ?k1 ?k2 ?k3 ?k4 ?_; (case k0 => assumption); (case k1 => k_asm); (case k2 => k_mem); (case k3 => k_mem); (case k4 => assumption))
  | ((with_reducible show wpAny _ _ (PySem.call _ [_, Value.int 1 _]) _ _ _); refine' group1_some ?k0 ?k1 ?k2 ?k3 ?k4 ?_; (case k0 => assumption); (case k1 => k_asm); (case k2 => k_mem); (case k3 => k_mem); (case k4 => assumption))
  | ((with_reducible show wpAny _ _ (PySem.call _ [_, Value.int 1 _]) _ _ _); refine' group1_none ?k0 ?k1 ?k2 ?k3 ?k4 ?_; (case k0 => assumption); (case k1 => k_asm); (case k2 => k_mem); (case k3 => k_mem); (case k4 => assumption))
  ; k_whole; (try dsimp only))))
local macro_rules | `(tactic| walk_at "truthy ref") => `(tactic| (k_here; k_dflt ((refine' truthy_K ?k1 ?k2 ?_); (case k1 => k_asm); (case k2 => k_mem); k_whole; (try dsimp only))))

theorem int_is {b b' : Int} {t : Tok} (e : b = b') : ∃ t', Value.int b t = .int b' t' := ⟨t, by rw [e]⟩
theorem no_dash {y1 d : Str} (q : (y1 == d) = false) : ¬ (some y1 = some d) := fun e => by
  injection e with e
  subst e
  simp at q
set_option maxHeartbeats 8000000 in
theorem tz_says (w : World) (mean mg mb) (z : Str) (t1 : Tok) (off : Int) (hz : z.cps.size ≤ sizeLine) (hz2 : z.cps.size < 2 ^ 63) (hoff : tzF z = some off) :
    Says 1 w mean mg mb 77 [.str z t1] (fun _ => True) (fun v nx => nx = [] ∧ ∃ t, v = .int off t) := by
  unfold Says KK prog
  k_fill
  intro dp un gd cn cs a ccd cl outer A₀ base h₀ L mm news s Q E B F X N T hk hd hu hp hret
  refine wpAny_call ?_
  k_dflt cell_enter
  unfold tzF at hoff
  split at hoff
  · rename_i hzn
    unfold inZones at hzn
    k_steps
    all_goals (refine' says_ret0 (Q := Q) (s := s) hret ?k1 ?k2 ?k3 ?k4; (case k1 => k_asm); (case k2 => assumption); (case k3 => first | exact fun p hp => hp | exact fun p hp => .tail _ hp | exact fun p hp => .tail _ (.tail _ hp)); (case k4 => refine ⟨rfl, int_is ?_⟩; (try rw [hg1] at hoff); first | (injection hoff; done) | (simp at hoff; omega) | (rename ((_ == Str.ofString "-") = true) => q9; rw [if_pos (congrArg some (eq_of_beq q9))] at hoff; injection hoff; done) | (rename ((_ == Str.ofString "-") = false) => q9; rw [if_neg (no_dash q9)] at hoff; injection hoff; done) | (exfalso; simp at *; omega)))
  · rename_i hzn
    have hzn' := eq_false_of_ne_true hzn
    unfold inZones at hzn'
    split at hoff
    · cases hoff
    · rename_i m hr
      split at hoff
      · cases hoff
      · rename_i y2 hg2
        split at hoff
        · cases hoff
        · rename_i h hsm
          obtain ⟨hh, hh0, hh1, hh2, hh3⟩ := small_is hsm
          have hl : y2.length ≤ 640 := by omega
          cases hg1 : grpVal z (spanAt m 0) with
          | none =>
            split at hoff
            · rename_i hg3
              k_steps
              all_goals (refine' says_ret0 (Q := Q) (s := s) hret ?k1 ?k2 ?k3 ?k4; (case k1 => k_asm); (case k2 => assumption); (case k3 => first | exact fun p hp => hp | exact fun p hp => .tail _ hp | exact fun p hp => .tail _ (.tail _ hp)); (case k4 => refine ⟨rfl, int_is ?_⟩; (try rw [hg1] at hoff); first | (injection hoff; done) | (simp at hoff; omega) | (rename ((_ == Str.ofString "-") = true) => q9; rw [if_pos (congrArg some (eq_of_beq q9))] at hoff; injection hoff; done) | (rename ((_ == Str.ofString "-") = false) => q9; rw [if_neg (no_dash q9)] at hoff; injection hoff; done) | (exfalso; simp at *; omega)))
            · rename_i y3 hg3
              split at hoff
              · cases hoff
              · rename_i k hsm3
                obtain ⟨hk, hk0, hk1, hk2, hk3⟩ := small_is hsm3
                have hl3 : y3.length ≤ 640 := by omega
                k_steps
                all_goals (refine' says_ret0 (Q := Q) (s := s) hret ?k1 ?k2 ?k3 ?k4; (case k1 => k_asm); (case k2 => assumption); (case k3 => first | exact fun p hp => hp | exact fun p hp => .tail _ hp | exact fun p hp => .tail _ (.tail _ hp)); (case k4 => refine ⟨rfl, int_is ?_⟩; (try rw [hg1] at hoff); first | (injection hoff; done) | (simp at hoff; omega) | (rename ((_ == Str.ofString "-") = true) => q9; rw [if_pos (congrArg some (eq_of_beq q9))] at hoff; injection hoff; done) | (rename ((_ == Str.ofString "-") = false) => q9; rw [if_neg (no_dash q9)] at hoff; injection hoff; done) | (exfalso; simp at *; omega)))
          | some y1 =>
            split at hoff
            · rename_i hg3
              k_steps
              all_goals (refine' says_ret0 (Q := Q) (s := s) hret ?k1 ?k2 ?k3 ?k4; (case k1 => k_asm); (case k2 => assumption); (case k3 => first | exact fun p hp => hp | exact fun p hp => .tail _ hp | exact fun p hp => .tail _ (.tail _ hp)); (case k4 => refine ⟨rfl, int_is ?_⟩; (try rw [hg1] at hoff); first | (injection hoff; done) | (simp at hoff; omega) | (rename ((_ == Str.ofString "-") = true) => q9; rw [if_pos (congrArg some (eq_of_beq q9))] at hoff; injection hoff; done) | (rename ((_ == Str.ofString "-") = false) => q9; rw [if_neg (no_dash q9)] at hoff; injection hoff; done) | (exfalso; simp at *; omega)))
            · rename_i y3 hg3
              split at hoff
              · cases hoff
              · rename_i k hsm3
                obtain ⟨hk, hk0, hk1, hk2, hk3⟩ := small_is hsm3
                have hl3 : y3.length ≤ 640 := by omega
                k_steps
                all_goals (refine' says_ret0 (Q := Q) (s := s) hret ?k1 ?k2 ?k3 ?k4; (case k1 => k_asm); (case k2 => assumption); (case k3 => first | exact fun p hp => hp | exact fun p hp => .tail _ hp | exact fun p hp => .tail _ (.tail _ hp)); (case k4 => refine ⟨rfl, int_is ?_⟩; (try rw [hg1] at hoff); first | (injection hoff; done) | (simp at hoff; omega) | (rename ((_ == Str.ofString "-") = true) => q9; rw [if_pos (congrArg some (eq_of_beq q9))] at hoff; injection hoff; done) | (rename ((_ == Str.ofString "-") = false) => q9; rw [if_neg (no_dash q9)] at hoff; injection hoff; done) | (exfalso; simp at *; omega)))

theorem tz_use {w : World} {mean : ExcName → Option Value} {mg mb : Str → Option Value} {z : Str} {t1 : Tok} {off : Int} (hz : z.cps.size ≤ sizeLine) (hz2 : z.cps.size < 2 ^ 63) (hoff : tzF z = some off)
    {dp un : Nat} {gd : Option (List Code)} {cn : Str} {cs : Scope} {a : Addr} {ccd : Value} {cl : List (Str × Addr)} {outer : List Env} {A₀ : Around} {base h₀ : Heap} {L : Addr} {m : Str → Option Value} {news : List (Addr × Obj)} {s : Shared} {Q E : Value → Shared → Prop}
    (B : Below A₀ base outer h₀) (F : Fr h₀ L s.heap m) (X : (KK w).In h₀) (N : News h₀ L s.heap news) (T : Top hd.view_39 loose0 mean mg mb h₀) (hk : cs.kind = .function) (hd : dp + 1 < recursionLimit) (hu : un + 8 * 1 < cLine)
    (ret : ∀ t h' tk', Fr h₀ L h' m → News h₀ L h' news → Q (.int off t) { s with heap := h', toks := tk' }) :
    wpAny (model prog w) (ktrTop dp un gd cn cs L a ccd cl outer) (call (.ref 77) [.str z t1]) Q E s :=
  says_use (tz_says w mean mg mb z t1 off hz hz2 hoff) B F X N T hk hd hu trivial (fun v nx h' tk' r _ F' N' => by
    obtain ⟨e, t, e'⟩ := r
    subst e; subst e'
    exact ret t h' tk' F' N')

end
end Mine

namespace Mine
section
open PySem PySem.W PyProof.Rows PySem.Calls PySem.Spec
set_option maxRecDepth 100000
/-- every zone of the day's m-ths is told to the second -/
def zoneGood (n d : Int) : Bool := decide (tzF (zoneF n d) = some (60 * n)) && decide ((zoneF n d).cps.size ≤ 7)
def steps (m : Nat) : List Int := (List.range (3 * m - 2)).map fun (i : Nat) => 1 - (m : Int) + (i : Int)

end
end Mine

namespace Mine
section
open PySem PySem.W PyProof.Rows PySem.Calls PySem.Spec
set_option maxRecDepth 100000
set_option maxHeartbeats 0
theorem zones4 : (([-3, -1, 1, 3, 5] : List Int).all fun n => [0, 1, 2, 3].all fun d => zoneGood (n * 360) d) = true := by decide +kernel
theorem zones5 : ((steps 5).all fun n => [0, 1, 2, 3].all fun d => zoneGood (n * 288) d) = true := by decide +kernel
theorem zones6 : ((steps 6).all fun n => [0, 1, 2, 3].all fun d => zoneGood (n * 240) d) = true := by decide +kernel

theorem mem_steps {M : Nat} {k : Int} (h0 : 1 - (M : Int) ≤ k) (h1 : k < 2 * (M : Int) - 1) : k ∈ steps M := by
  unfold steps
  refine List.mem_map.mpr ⟨(k - (1 - (M : Int))).toNat, List.mem_range.mpr (by omega), by omega⟩
theorem zone_of {M : Nat} {q : Int} (h : ((steps M).all fun n => [0, 1, 2, 3].all fun d => zoneGood (n * q) d) = true) {k d : Int} (h0 : 1 - (M : Int) ≤ k) (h1 : k < 2 * (M : Int) - 1) (d0 : 0 ≤ d) (d1 : d < 4) : zoneGood (k * q) d = true := by
  have e := List.all_eq_true.mp (List.all_eq_true.mp h k (mem_steps h0 h1)) d
  refine e ?_
  have : d = 0 ∨ d = 1 ∨ d = 2 ∨ d = 3 := by omega
  rcases this with rfl | rfl | rfl | rfl <;> simp
theorem zone_day {m k d : Int} (hm : 3 ≤ m ∧ m ≤ 6) (h0 : 1 - m ≤ k) (h1 : k < 2 * m - 1) (d0 : 0 ≤ d) (d1 : d < 4) : zoneGood (k * Int.fdiv 1440 m) d = true := by
  have h : m = 3 ∨ m = 4 ∨ m = 5 ∨ m = 6 := by omega
  rcases h with rfl | rfl | rfl | rfl
  · rw [show Int.fdiv 1440 3 = 480 from by decide, show k * 480 = 2 * k * 240 by omega]
    exact zone_of (M := 6) zones6 (k := 2 * k) (by omega) (by omega) d0 d1
  · rw [show Int.fdiv 1440 4 = 360 from by decide]
    have hk : k = -3 ∨ k = -1 ∨ k = 1 ∨ k = 3 ∨ k = 5 ∨ k = 2 * (k / 2) := by omega
    have hd : d = 0 ∨ d = 1 ∨ d = 2 ∨ d = 3 := by omega
    rcases hk with e | e | e | e | e | e
    case inr.inr.inr.inr.inr =>
      rw [show k * 360 = 3 * (k / 2) * 240 by omega]
      exact zone_of (M := 6) zones6 (k := 3 * (k / 2)) (by omega) (by omega) d0 d1
    all_goals
      have q := List.all_eq_true.mp (List.all_eq_true.mp zones4 k (by rw [e]; decide)) d
      exact q (by rcases hd with f | f | f | f <;> rw [f] <;> decide)
  · exact zone_of (M := 5) zones5 h0 h1 d0 d1
  · exact zone_of (M := 6) zones6 h0 h1 d0 d1
theorem tz_day {m k d : Int} (hm : 3 ≤ m ∧ m ≤ 6) (h0 : 1 - m ≤ k) (h1 : k < 2 * m - 1) (d0 : 0 ≤ d) (d1 : d < 4) :
    tzF (zoneF (k * Int.fdiv 1440 m) d) = some (60 * (k * Int.fdiv 1440 m)) ∧ (zoneF (k * Int.fdiv 1440 m) d).cps.size ≤ 7 := by
  have h := zone_day hm h0 h1 d0 d1
  unfold zoneGood at h
  rw [Bool.and_eq_true, decide_eq_true_eq, decide_eq_true_eq] at h
  exact h
theorem min_day {m k : Int} (hm : 3 ≤ m ∧ m ≤ 6) (h0 : 1 - m ≤ k) (h1 : k < 2 * m - 1) : -3000 ≤ k * Int.fdiv 1440 m ∧ k * Int.fdiv 1440 m ≤ 3000 := by
  have h : m = 3 ∨ m = 4 ∨ m = 5 ∨ m = 6 := by omega
  rcases h with rfl | rfl | rfl | rfl
  · rw [show Int.fdiv 1440 3 = 480 from by decide]; omega
  · rw [show Int.fdiv 1440 4 = 360 from by decide]; omega
  · rw [show Int.fdiv 1440 5 = 288 from by decide]; omega
  · rw [show Int.fdiv 1440 6 = 240 from by decide]; omega

theorem zone_dayUse {w : World} {mean : ExcName → Option Value} {mg mb : Str → Option Value} {m k d : Int} {t1 t2 : Tok} (hm : 3 ≤ m ∧ m ≤ 6) (h0 : 1 - m ≤ k) (h1 : k < 2 * m - 1)
    {dp un : Nat} {gd : Option (List Code)} {cn : Str} {cs : Scope} {a : Addr} {ccd : Value} {cl : List (Str × Addr)} {outer : List Env} {A₀ : Around} {base h₀ : Heap} {L : Addr} {mm : Str → Option Value} {news : List (Addr × Obj)} {s : Shared} {Q E : Value → Shared → Prop}
    (B : Below A₀ base outer h₀) (F : Fr h₀ L s.heap mm) (X : (KK w).In h₀) (N : News h₀ L s.heap news) (T : Top hd.view_39 loose0 mean mg mb h₀) (hk : cs.kind = .function) (hd : dp + 1 < recursionLimit) (hu : un + 8 * 1 < cLine)
    (ret : ∀ t h' tk', Fr h₀ L h' mm → News h₀ L h' news → Q (.str (zoneF (k * Int.fdiv 1440 m) d) t) { s with heap := h', toks := tk' }) :
    wpAny (model prog w) (ktrTop dp un gd cn cs L a ccd cl outer) (call (.ref 91) [.int (k * Int.fdiv 1440 m) t1, .int d t2]) Q E s :=
  zone_use (min_day hm h0 h1) B F X N T hk hd hu ret
theorem tz_dayUse {w : World} {mean : ExcName → Option Value} {mg mb : Str → Option Value} {m k e : Int} {t1 : Tok} (hm : 3 ≤ m ∧ m ≤ 6) (h0 : 1 - m ≤ k) (h1 : k < 2 * m - 1)
    {dp un : Nat} {gd : Option (List Code)} {cn : Str} {cs : Scope} {a : Addr} {ccd : Value} {cl : List (Str × Addr)} {outer : List Env} {A₀ : Around} {base h₀ : Heap} {L : Addr} {mm : Str → Option Value} {news : List (Addr × Obj)} {s : Shared} {Q E : Value → Shared → Prop}
    (B : Below A₀ base outer h₀) (F : Fr h₀ L s.heap mm) (X : (KK w).In h₀) (N : News h₀ L s.heap news) (T : Top hd.view_39 loose0 mean mg mb h₀) (hk : cs.kind = .function) (hd : dp + 1 < recursionLimit) (hu : un + 8 * 1 < cLine)
    (ret : ∀ t h' tk', Fr h₀ L h' mm → News h₀ L h' news → Q (.int (60 * (k * Int.fdiv 1440 m)) t) { s with heap := h', toks := tk' }) :
    wpAny (model prog w) (ktrTop dp un gd cn cs L a ccd cl outer) (call (.ref 77) [.str (zoneF (k * Int.fdiv 1440 m) (Int.fmod e 4)) t1]) Q E s := by
  have hd0 : 0 ≤ Int.fmod e 4 := Int.fmod_nonneg_of_pos _ (by decide)
  have hd1 : Int.fmod e 4 < 4 := Int.fmod_lt_of_pos _ (by decide)
  obtain ⟨q1, q2⟩ := tz_day hm h0 h1 hd0 hd1
  exact tz_use (Nat.le_trans q2 (by decide)) (Nat.lt_of_le_of_lt q2 (by decide)) q1 B F X N T hk hd hu ret

end
end Mine

namespace Mine
section
open PySem PySem.W PyProof.Rows PySem.Calls PySem.Spec PyProof.V
set_option maxRecDepth 100000

/-- the pairs that the day's loop has laid -/
def laid (g : Int → Int) (pre : List Int) : List (Int × Int) := pre.map fun n => (n, g n)
theorem laid_put (g : Int → Int) (pre : List Int) (k : Int) (h : ∀ q ∈ pre, q < k) : kdfPut (laid g pre) k (g k) = laid g (pre ++ [k]) := by
  have hn : (laid g pre).any (fun p => decide (p.1 = k)) = false := by
    rw [List.any_eq_false]
    intro p hp
    obtain ⟨q, hq, rfl⟩ := List.mem_map.mp hp
    have := h q hq
    simp only [decide_eq_true_eq]
    omega
  unfold kdfPut
  rw [hn]
  simp [laid]

/-- what a turn of the day's loop has done -/
def MirEnd (prog : Program) (w : World) (h₀ : Heap) (L d : Addr) (x : Str) (stored : List Str) (m₀ : Str → Option Value) (rest : List (Addr × Obj)) (c : List (Int × Int)) (s₁ s₂ : Shared) : Prop :=
  ∃ h' tk' o' kvs' m', s₂ = { s₁ with heap := h', toks := tk' } ∧ Fr h₀ L h' m' ∧ News h₀ L h' ((d, o') :: rest) ∧ o'.IsDictOf (PySem.intKind prog w) kvs' ∧ FlatPairs PyData.int kvs' (kdfD c) ∧ (∀ z, z ≠ x → stored.contains z = false → m' z = m₀ z)
def MirPost (prog : Program) (w : World) (h₀ : Heap) (L d : Addr) (x : Str) (stored : List Str) (m₀ : Str → Option Value) (rest : List (Addr × Obj)) (c : List (Int × Int)) (s₁ : Shared) (Q : Flow → Shared → Prop) (f : Flow) (s₂ : Shared) : Prop :=
  match f with
  | .ret v => Q (.ret v) s₂
  | .brk => Q .next s₂
  | _ => MirEnd prog w h₀ L d x stored m₀ rest c s₁ s₂

section
variable {prog : Program} {w : World} {A : Around} {E : Value → Shared → Prop} {s : Shared} {env : Env} {h₀ : Heap} {x : Str} {body : List Stmt} {Q : Flow → Shared → Prop}
theorem mir_iter {r d : Addr} {a₀ b₀ : Int} {t₀ u₀ v₀ : Tok} {n : Nat} {m₀ : Str → Option Value} {news : List (Addr × Obj)} {o₀ : Obj} (g : Int → Int) (stored : List Str)
    (hh : A.handled = none) (hr : IsRange s.heap r a₀ b₀ 1 t₀ u₀ v₀) (hsmall : Builtin.Range.small a₀ b₀ 1 = true) (hn : Builtin.Range.rangeSize a₀ b₀ 1 = (n : Int))
    (F : Fr h₀ env.locals s.heap m₀) (N : News h₀ env.locals s.heap ((d, o₀) :: news)) (hne : ∀ p ∈ news, p.1 < d) (hd : o₀.IsDictOf (PySem.intKind prog w) []) (hf : FlatPairs PyData.int [] (kdfD []))
    (turn : ∀ o kvs (pre : List Int) (k : Int) t (u : Str → Option Value) h tk rest, k = a₀ + (pre.length : Int) → pre.length < n → (∀ q ∈ pre, q < k) → (∀ p ∈ rest, p.1 ≠ d) → o.IsDictOf (PySem.intKind prog w) kvs → FlatPairs PyData.int kvs (kdfD (laid g pre)) →
      Fr h₀ env.locals h (fun y => if y = x then some (.int k t) else if stored.contains y then u y else m₀ y) → News h₀ env.locals h ((d, o) :: rest) →
      wpAny (model prog w) A (execs body env) (MirPost prog w h₀ env.locals d x stored m₀ rest (laid g (pre ++ [k])) { s with heap := h, toks := tk } Q) E { s with heap := h, toks := tk })
    (done : ∀ o kvs (u : Str → Option Value) h tk, o.IsDictOf (PySem.intKind prog w) kvs → FlatPairs PyData.int kvs (kdfD (laid g (rangeKs a₀ n))) →
      Fr h₀ env.locals h (fun y => if y = x then u y else if stored.contains y then u y else m₀ y) → News h₀ env.locals h ((d, o) :: news) → Q .next { s with heap := h, toks := tk }) :
    wpAny (model prog w) A (pyIter (.ref r)) (fun it s₂ => LoopAtV prog w A h₀ env x body Q E it s₂) E s := by
  refine kst_range (σ := Obj × List (Int × Value) × List (Int × Int)) (fun c => (d, c.1) :: news) (fun _ => []) (fun c => c.1.IsDictOf (PySem.intKind prog w) c.2.1 ∧ FlatPairs PyData.int c.2.1 (kdfD c.2.2)) stored
    (fun pre c => c.2.2 = laid g pre ∧ ∀ q ∈ pre, q < a₀ + (pre.length : Int)) (o₀, [], []) hh hr hsmall hn F N ⟨hd, hf⟩ (fun p hp => nomatch hp) ⟨rfl, fun q hq => nomatch hq⟩ ?_ ?_
  · rintro ⟨o, kvs, c⟩ pre k t u h tk own hk hl hoff ⟨h1, h2⟩ ⟨h3, h4⟩ F₁ N₁
    dsimp only at h1 h2 h3
    subst h3
    have hoff' : ∀ p ∈ news ++ own, p.1 ≠ d := by
      intro p hp
      rcases List.mem_append.mp hp with hp | hp
      · exact Nat.ne_of_lt (hne p hp)
      · exact hoff p hp d (.head _)
    refine wpAny_mono (turn o kvs pre k t u h tk (news ++ own) hk hl (fun q hq => by rw [hk]; exact h4 q hq) hoff' h1 h2 F₁ N₁) ?_ (fun _ _ e => e)
    intro f s₂ hp
    have up : MirEnd prog w h₀ env.locals d x stored m₀ (news ++ own) (laid g (pre ++ [k])) { s with heap := h, toks := tk } s₂ →
        InvEndN h₀ env.locals (KstS (σ := Obj × List (Int × Value) × List (Int × Int)) (fun c => (d, c.1) :: news) (fun _ => []) (fun c => c.1.IsDictOf (PySem.intKind prog w) c.2.1 ∧ FlatPairs PyData.int c.2.1 (kdfD c.2.2)) x stored m₀
          (fun pre c => c.2.2 = laid g pre ∧ ∀ q ∈ pre, q < a₀ + (pre.length : Int)) (pre ++ [k])) own (((d, o₀) :: news).map (·.1)) { s with heap := h, toks := tk } s₂ := by
      rintro ⟨h', tk', o', kvs', m', e, F', N', i1, i2, i3⟩
      refine ⟨h', tk', m', (d, o') :: (news ++ own), (d, o') :: news, e, F', N', ?_, ?_, rfl, ⟨(o', kvs', laid g (pre ++ [k])), rfl, ⟨i1, i2⟩, fun p hp => (nomatch hp), fun z hz _ hs => i3 z hz hs, rfl, ?_⟩⟩
      · intro p hp
        rcases List.mem_cons.mp hp with rfl | hp
        · exact .head _
        · exact .tail _ (List.mem_append_left _ hp)
      · intro p hp
        exact .tail _ (List.mem_append_right _ hp)
      · intro q hq
        rw [List.length_append, List.length_singleton]
        rcases List.mem_append.mp hq with hq | hq
        · have := h4 q hq; omega
        · rw [List.mem_singleton.mp hq, hk]; omega
    cases f with
    | ret v => exact hp
    | brk => exact hp
    | next => exact up hp
    | cont => exact up hp
  · rintro ⟨o, kvs, c⟩ u h tk ⟨h1, h2⟩ ⟨h3, _⟩ F₁ N₁
    dsimp only at h1 h2 h3
    subst h3
    exact done o kvs u h tk h1 h2 F₁ N₁

theorem small_m {m : Int} (hm : 3 ≤ m ∧ m ≤ 6) : Builtin.Range.small (1 - m) (2 * m - 1) 1 = true := by
  have h : m = 3 ∨ m = 4 ∨ m = 5 ∨ m = 6 := by omega
  rcases h with rfl | rfl | rfl | rfl <;> decide
def modM (m n : Int) : Int := n.fmod m
def mirStored : List Str := [Str.ofString "minutes", Str.ofString "told", Str.ofString "red", Str.ofString "green", Str.ofString "blue", Str.ofString "hue", Str.ofString "height", Str.ofString "share", Str.ofString "place"]
theorem mir_iterM {m : Int} {r d : Addr} {t₀ u₀ v₀ : Tok} {m₀ : Str → Option Value} {news : List (Addr × Obj)} {o₀ : Obj} (hm : 3 ≤ m ∧ m ≤ 6)
    (hh : A.handled = none) (hr : IsRange s.heap r (1 - m) (2 * m - 1) 1 t₀ u₀ v₀)
    (F : Fr h₀ env.locals s.heap m₀) (N : News h₀ env.locals s.heap ((d, o₀) :: news)) (hne : ∀ p ∈ news, p.1 < d) (hd : o₀.IsDictOf (PySem.intKind prog w) []) (hf : FlatPairs PyData.int [] (kdfD []))
    (turn : ∀ o kvs (pre : List Int) (k : Int) t (u : Str → Option Value) h tk rest, k = 1 - m + (pre.length : Int) → (k < 2 * m - 1) → (∀ q ∈ pre, q < k) → (∀ p ∈ rest, p.1 ≠ d) → o.IsDictOf (PySem.intKind prog w) kvs → FlatPairs PyData.int kvs (kdfD (laid (modM m) pre)) →
      Fr h₀ env.locals h (fun y => if y = x then some (.int k t) else if mirStored.contains y then u y else m₀ y) → News h₀ env.locals h ((d, o) :: rest) →
      wpAny (model prog w) A (execs body env) (MirPost prog w h₀ env.locals d x mirStored m₀ rest (laid (modM m) (pre ++ [k])) { s with heap := h, toks := tk } Q) E { s with heap := h, toks := tk })
    (done : ∀ o kvs (u : Str → Option Value) h tk, o.IsDictOf (PySem.intKind prog w) kvs → FlatPairs PyData.int kvs (kdfD (laid (modM m) (rangeKs (1 - m) (3 * m - 2).toNat))) →
      Fr h₀ env.locals h (fun y => if y = x then u y else if mirStored.contains y then u y else m₀ y) → News h₀ env.locals h ((d, o) :: news) → Q .next { s with heap := h, toks := tk }) :
    wpAny (model prog w) A (pyIter (.ref r)) (fun it s₂ => LoopAtV prog w A h₀ env x body Q E it s₂) E s := by
  have e : 2 * m - 1 - (1 - m) = 3 * m - 2 := by omega
  have hn := rangeSize_nat (1 - m) (2 * m - 1)
  rw [e] at hn
  refine mir_iter (modM m) mirStored hh hr (small_m hm) hn F N hne hd hf ?_ done
  intro o kvs pre k t u h tk rest h1 h2
  exact turn o kvs pre k t u h tk rest h1 (by omega)

theorem mir_end {L d : Addr} {stored : List Str} {m₀ m' : Str → Option Value} {rest : List (Addr × Obj)} {c : List (Int × Int)} {h' : Heap} {tk' : Nat} {o' : Obj} {kvs' : List (Int × Value)}
    (F : Fr h₀ L h' m') (N : News h₀ L h' ((d, o') :: rest)) (a : o'.IsDictOf (PySem.intKind prog w) kvs') (b : FlatPairs PyData.int kvs' (kdfD c)) (e : ∀ z, z ≠ x → stored.contains z = false → m' z = m₀ z) :
    MirPost prog w h₀ L d x stored m₀ rest c s Q .next { s with heap := h', toks := tk' } := ⟨h', tk', o', kvs', m', rfl, F, N, a, b, e⟩
theorem not_stored {z y : Str} (h : mirStored.contains z = false) (hy : mirStored.contains y = true) : z ≠ y := fun e => by
  rw [e, hy] at h
  cases h
/-- the day's dict -/
def DayDict (w : World) (m : Int) (v : Value) (nx : List (Addr × Obj)) : Prop :=
  ∃ D o kvs, v = .ref D ∧ nx = [(D, o)] ∧ o.IsDictOf (PySem.intKind Mine.prog w) kvs ∧ FlatPairs PyData.int kvs (kdfD (laid (modM m) (rangeKs (1 - m) (3 * m - 2).toNat)))

/-- the turn's store into the dict -/
theorem mir_set {L d : Addr} {m : Str → Option Value} {news rest : List (Addr × Obj)} {o : Obj} {kvs : List (Int × Value)} {g : Int → Int} {pre : List Int} {k e : Int} {tk te : Tok} {Q : Unit → Shared → Prop}
    (F : Fr h₀ L s.heap m) (N : News h₀ L s.heap news) (hd : o.IsDictOf (PySem.intKind prog w) kvs) (hf : FlatPairs PyData.int kvs (kdfD (laid g pre))) (hin : (d, o) ∈ news) (hs : ∀ p ∈ rest, p ∈ news) (hne : ∀ p ∈ rest, p.1 ≠ d) (hk : ∀ q ∈ pre, q < k) (hl : pre.length ≤ 16777216) (he : e = g k)
    (h : ∀ h' o' kvs', Fr h₀ L h' m → News h₀ L h' ((d, o') :: rest) → o'.IsDictOf (PySem.intKind prog w) kvs' → FlatPairs PyData.int kvs' (kdfD (laid g (pre ++ [k]))) → Q () { s with heap := h', toks := s.toks + 1 }) :
    wpAny (model prog w) A (setItem (.ref d) (.int k tk) (.int e te)) Q E s := by
  subst he
  have N' : News h₀ L s.heap ((d, o) :: rest) := fun p hp => by
    rcases List.mem_cons.mp hp with rfl | hp
    · exact N _ hin
    · exact N _ (hs p hp)
  refine kdf_setItem (u := fun o' => (d, o') :: rest) F N' ?_ hd hf (by rw [laid, List.length_map]; exact hl) (fun h' o' kvs' F' N'' a b => h h' o' kvs' F' N'' a (by rw [← laid_put g pre k hk]; exact b))
  exact .head hne
end

end
end Mine

namespace Mine
section
open PySem PySem.W PyProof.Rows PySem.Calls PySem.Spec
set_option maxRecDepth 100000
/-- the quotient of two ints -/
def quo (a b : Int) : UInt64 := Float64.ofFrac (decide (a < 0) != decide (b < 0)) a.natAbs b.natAbs
/-- the nearest int of a finite float -/
def near (x : UInt64) : Int := Flt.toInt Float64.nearestOf x
/-- the day's hue, its colour and what is read off the wheel -/
def dayHue (m k : Int) : UInt64 := quo (60 * (k * Int.fdiv 1440 m)) 86400
def dayRGB (m k a p : Int) : UInt64 × UInt64 × UInt64 := hlsF (dayHue m k) (quo a 8) (quo p 4)
def dayHLS (m k a p : Int) : UInt64 × UInt64 × UInt64 := rgbF (dayRGB m k a p).1 (dayRGB m k a p).2.1 (dayRGB m k a p).2.2
def dayPlace (m k a p : Int) : UInt64 := Float64.mul (Float64.ofInt (1000000 * m)) (dayHLS m k a p).1
def dayGood (m k a p : Int) : Bool :=
  let c := dayRGB m k a p
  let d := rgbF c.1 c.2.1 c.2.2
  let u := Float64.mul (Float64.ofInt 1000000) d.2.1
  let v := Float64.mul (Float64.ofInt 1000000) d.2.2
  let x := Float64.mul (Float64.ofInt (1000000 * m)) d.1
  rgbOk c.1 c.2.1 c.2.2 && Float64.isFinite u && decide (near u = 125000 * a) && Float64.isFinite v && decide (near v = 250000 * p) && Float64.isFinite x && decide ((near x).fmod 1000000 = 0) && decide (((near x).fdiv 1000000).fmod m = k.fmod m)

section
variable {prog : Program} {w : World} {A : Around} {E : Value → Shared → Prop} {s : Shared}
theorem lt1023 {a : Nat} (h : a ≤ 10000000) : a < 2 ^ 1023 := Nat.lt_of_le_of_lt h (Nat.lt_of_lt_of_le (show 10000000 < 2 ^ 24 by decide) (Nat.pow_le_pow_right (by decide) (by decide)))
theorem div_K {a b : Int} {t u : Tok} {Q : Value → Shared → Prop} (hA : A.handled = none) (ha : -10000000 ≤ a ∧ a ≤ 10000000) (hb : b ≠ 0) (h : Q (.float (quo a b) s.toks) { s with toks := s.toks + 1 }) : wpAny (model prog w) A (binaryOp .Div (.int a t) (.int b u)) Q E s :=
  Flt.div_ii_fits hA (lt1023 (by omega)) (fun e => absurd e hb) (fun _ _ => h)
theorem mul_K {a : Int} {x : UInt64} {t u : Tok} {Q : Value → Shared → Prop} (ha : -10000000 ≤ a ∧ a ≤ 10000000) (h : Q (.float (Float64.mul (Float64.ofInt a) x) s.toks) { s with toks := s.toks + 1 }) : wpAny (model prog w) A (binaryOp .Mult (.int a t) (.float x u)) Q E s :=
  mul_if_fits (lt1023 (by omega)) h
theorem round_K {x : UInt64} {t : Tok} {Q : Value → Shared → Prop} (hA : A.handled = none) (hx : Float64.isFinite x = true) (h : Q (.int (near x) s.toks) { s with toks := s.toks + 1 }) : wpAny (model prog w) A (call (.builtin "round") [.float x t]) Q E s := by
  refine Flt.call_round_float hA (fun e => ?_) (fun e => ?_) (fun _ => h)
  · rcases Flt.three x with ⟨hd, c⟩ | ⟨_, hd, c⟩ | ⟨sg, m, e', hd, c⟩ <;> simp [Float64.isFinite, Float64.isNaN, hd] at hx e
  · rcases Flt.three x with ⟨hd, c⟩ | ⟨_, hd, c⟩ | ⟨sg, m, e', hd, c⟩ <;> simp [Float64.isFinite, Float64.isInf, hd] at hx e
end
theorem day_facts {m k a p : Int} (h : dayGood m k a p = true) :
    rgbOk (dayRGB m k a p).1 (dayRGB m k a p).2.1 (dayRGB m k a p).2.2 = true ∧ Float64.isFinite (Float64.mul (Float64.ofInt 1000000) (dayHLS m k a p).2.1) = true ∧ near (Float64.mul (Float64.ofInt 1000000) (dayHLS m k a p).2.1) = 125000 * a ∧
    Float64.isFinite (Float64.mul (Float64.ofInt 1000000) (dayHLS m k a p).2.2) = true ∧ near (Float64.mul (Float64.ofInt 1000000) (dayHLS m k a p).2.2) = 250000 * p ∧
    Float64.isFinite (dayPlace m k a p) = true ∧ (near (dayPlace m k a p)).fmod 1000000 = 0 ∧ ((near (dayPlace m k a p)).fdiv 1000000).fmod m = k.fmod m := by
  unfold dayGood at h
  simp only [Bool.and_eq_true, decide_eq_true_eq] at h
  obtain ⟨⟨⟨⟨⟨⟨⟨h1, h2⟩, h3⟩, h4⟩, h5⟩, h6⟩, h7⟩, h8⟩ := h
  exact ⟨h1, h2, h3, h4, h5, h6, h7, h8⟩
theorem ten6 : (10 : Int) ^ Int.toNat 6 = 1000000 := by decide
/-- .. as the walk writes them -/
theorem day_facts' {m k a p : Int} (h : dayGood m k a p = true) :
    rgbOk (dayRGB m k a p).1 (dayRGB m k a p).2.1 (dayRGB m k a p).2.2 = true ∧ Float64.isFinite (Float64.mul (Float64.ofInt (10 ^ Int.toNat 6)) (dayHLS m k a p).2.1) = true ∧ near (Float64.mul (Float64.ofInt (10 ^ Int.toNat 6)) (dayHLS m k a p).2.1) = 125000 * a ∧
    Float64.isFinite (Float64.mul (Float64.ofInt (10 ^ Int.toNat 6)) (dayHLS m k a p).2.2) = true ∧ near (Float64.mul (Float64.ofInt (10 ^ Int.toNat 6)) (dayHLS m k a p).2.2) = 250000 * p ∧
    Float64.isFinite (Float64.mul (Float64.ofInt (10 ^ Int.toNat 6 * m)) (dayHLS m k a p).1) = true ∧ (near (Float64.mul (Float64.ofInt (10 ^ Int.toNat 6 * m)) (dayHLS m k a p).1)).fmod (10 ^ Int.toNat 6) = 0 ∧
    ((near (Float64.mul (Float64.ofInt (10 ^ Int.toNat 6 * m)) (dayHLS m k a p).1)).fdiv (10 ^ Int.toNat 6)).fmod m = modM m k := by
  rw [ten6]
  exact day_facts h
theorem round_V {prog : Program} {w : World} {A : Around} {E : Value → Shared → Prop} {s : Shared} {x : UInt64} {v : Int} {t : Tok} {Q : Value → Shared → Prop} (hA : A.handled = none) (hx : Float64.isFinite x = true) (hv : near x = v) (h : Q (.int v s.toks) { s with toks := s.toks + 1 }) : wpAny (model prog w) A (call (.builtin "round") [.float x t]) Q E s := by
  subst hv
  exact round_K hA hx h

end
end Mine

namespace Mine
section
open PySem PySem.W PyProof.Rows PySem.Calls PySem.Spec
set_option maxRecDepth 100000
def natF {α : Type} (n : Nat) (f : Nat → α) : α := match n with | 0 => f 0 | n + 1 => f (n + 1)
theorem natF_eq {α : Type} (n : Nat) (f : Nat → α) : natF n f = f n := by cases n <;> rfl
def forceU {α : Type} (x : UInt64) (f : UInt64 → α) : α := natF x.toNat fun n => f (UInt64.ofNat n)
theorem forceU_eq {α : Type} (x : UInt64) (f : UInt64 → α) : forceU x f = f x := by
  unfold forceU
  rw [natF_eq, UInt64.ofNat_toNat]
def vG {α : Type} (x y z : UInt64) (c : UInt64 → α) : α :=
  forceU (Float64.divmod z 4607182418800017408).2 fun h =>
  if (Float64.cmp h 4595172819793696085 == some Ordering.lt) = true then
    forceU (Float64.sub y x) fun d => forceU (Float64.mul d h) fun e => forceU (Float64.mul e 4618441417868443648) fun f => forceU (Float64.add x f) c
  else if (Float64.cmp h 4602678819172646912 == some Ordering.lt) = true then c y
  else if (Float64.cmp h 4604180019048437077 == some Ordering.lt) = true then
    forceU (Float64.sub 4604180019048437077 h) fun g => forceU (Float64.sub y x) fun d => forceU (Float64.mul d g) fun e => forceU (Float64.mul e 4618441417868443648) fun f => forceU (Float64.add x f) c
  else c x
theorem vG_eq {α : Type} (x y z : UInt64) (c : UInt64 → α) : vG x y z c = c (vF x y z) := by
  unfold vG vF
  simp only [forceU_eq]
  split
  · rfl
  · split
    · rfl
    · split <;> rfl
def hlsG {α : Type} (x y z : UInt64) (c : UInt64 → UInt64 → UInt64 → α) : α :=
  if (Float64.cmp z 0 == some Ordering.eq) = true then c y y y
  else
    forceU (if (Float64.cmp y 4602678819172646912 == some Ordering.lt || Float64.cmp y 4602678819172646912 == some Ordering.eq) = true then Float64.mul y (Float64.add 4607182418800017408 z) else Float64.sub (Float64.add y z) (Float64.mul y z)) fun m2 =>
    forceU (Float64.sub (Float64.mul 4611686018427387904 y) m2) fun m1 =>
    forceU (Float64.add x 4599676419421066581) fun x1 => forceU (Float64.sub x 4599676419421066581) fun x2 =>
    vG m1 m2 x1 fun r => vG m1 m2 x fun g => vG m1 m2 x2 fun b => c r g b
theorem hlsG_eq {α : Type} (x y z : UInt64) (c : UInt64 → UInt64 → UInt64 → α) : hlsG x y z c = c (hlsF x y z).1 (hlsF x y z).2.1 (hlsF x y z).2.2 := by
  unfold hlsG hlsF
  simp only [forceU_eq, vG_eq]
  split <;> rfl
def rgbG {α : Type} (x y z : UInt64) (c : Bool → UInt64 → UInt64 → UInt64 → α) : α :=
  forceU (max3F x y z) fun M => forceU (min3F x y z) fun N => forceU (Float64.add M N) fun S => forceU (Float64.div S 4611686018427387904) fun L =>
  if (Float64.cmp N M == some Ordering.eq) = true then c true 0 L 0
  else
    forceU (Float64.sub M N) fun R => forceU (Float64.sub (Float64.sub 4611686018427387904 M) N) fun T =>
    forceU (if leF L 4602678819172646912 = true then Float64.div R S else Float64.div R T) fun s =>
    forceU (Float64.div (Float64.sub M x) R) fun rc => forceU (Float64.div (Float64.sub M y) R) fun gc => forceU (Float64.div (Float64.sub M z) R) fun bc =>
    forceU (if (Float64.cmp x M == some Ordering.eq) = true then Float64.sub bc gc
      else if (Float64.cmp y M == some Ordering.eq) = true then Float64.sub (Float64.add 4611686018427387904 rc) bc
      else Float64.sub (Float64.add 4616189618054758400 gc) rc) fun h =>
    forceU (Float64.divmod (Float64.div h 4618441417868443648) 4607182418800017408).2 fun h' =>
    c (if Float64.isZero R = true then false else if leF L 4602678819172646912 = true then !Float64.isZero S else !Float64.isZero T) h' L s
theorem rgbG_eq {α : Type} (x y z : UInt64) (c : Bool → UInt64 → UInt64 → UInt64 → α) : rgbG x y z c = c (rgbOk x y z) (rgbF x y z).1 (rgbF x y z).2.1 (rgbF x y z).2.2 := by
  unfold rgbG rgbOk rgbF lumF topF restF rngF
  simp only [forceU_eq]
  split <;> rfl
def dayGoodG (m k a p : Int) : Bool :=
  forceU (dayHue m k) fun h => forceU (quo a 8) fun l => forceU (quo p 4) fun s => hlsG h l s fun r g b => rgbG r g b fun ok d1 d2 d3 =>
  forceU (Float64.mul (Float64.ofInt 1000000) d2) fun u => forceU (Float64.mul (Float64.ofInt 1000000) d3) fun v => forceU (Float64.mul (Float64.ofInt (1000000 * m)) d1) fun x =>
  ok && Float64.isFinite u && decide (near u = 125000 * a) && Float64.isFinite v && decide (near v = 250000 * p) && Float64.isFinite x && decide ((near x).fmod 1000000 = 0) && decide (((near x).fdiv 1000000).fmod m = k.fmod m)
theorem dayGoodG_eq (m k a p : Int) : dayGoodG m k a p = dayGood m k a p := by
  unfold dayGoodG dayGood dayRGB
  simp only [forceU_eq, hlsG_eq, rgbG_eq]
def dayAllG (m : Nat) (a : Int) : Bool := (steps m).all fun k => [1, 2, 3, 4].all fun p => dayGoodG m k a p
set_option maxHeartbeats 0
theorem day_3_1 : dayAllG 3 1 = true := by decide +kernel
theorem day_3_2 : dayAllG 3 2 = true := by decide +kernel
theorem day_3_3 : dayAllG 3 3 = true := by decide +kernel
theorem day_3_4 : dayAllG 3 4 = true := by decide +kernel
theorem day_3_5 : dayAllG 3 5 = true := by decide +kernel
theorem day_3_6 : dayAllG 3 6 = true := by decide +kernel
theorem day_3_7 : dayAllG 3 7 = true := by decide +kernel
theorem day_4_1 : dayAllG 4 1 = true := by decide +kernel
theorem day_4_2 : dayAllG 4 2 = true := by decide +kernel
theorem day_4_3 : dayAllG 4 3 = true := by decide +kernel
theorem day_4_4 : dayAllG 4 4 = true := by decide +kernel
theorem day_4_5 : dayAllG 4 5 = true := by decide +kernel
theorem day_4_6 : dayAllG 4 6 = true := by decide +kernel
theorem day_4_7 : dayAllG 4 7 = true := by decide +kernel
theorem day_5_1 : dayAllG 5 1 = true := by decide +kernel
theorem day_5_2 : dayAllG 5 2 = true := by decide +kernel
theorem day_5_3 : dayAllG 5 3 = true := by decide +kernel
theorem day_5_4 : dayAllG 5 4 = true := by decide +kernel
theorem day_5_5 : dayAllG 5 5 = true := by decide +kernel
theorem day_5_6 : dayAllG 5 6 = true := by decide +kernel
theorem day_5_7 : dayAllG 5 7 = true := by decide +kernel
theorem day_6_1 : dayAllG 6 1 = true := by decide +kernel
theorem day_6_2 : dayAllG 6 2 = true := by decide +kernel
theorem day_6_3 : dayAllG 6 3 = true := by decide +kernel
theorem day_6_4 : dayAllG 6 4 = true := by decide +kernel
theorem day_6_5 : dayAllG 6 5 = true := by decide +kernel
theorem day_6_6 : dayAllG 6 6 = true := by decide +kernel
theorem day_6_7 : dayAllG 6 7 = true := by decide +kernel
theorem day_of {M : Nat} {a : Int} (h : dayAllG M a = true) {k p : Int} (h0 : 1 - (M : Int) ≤ k) (h1 : k < 2 * (M : Int) - 1) (hp : 1 ≤ p ∧ p ≤ 4) : dayGood M k a p = true := by
  rw [← dayGoodG_eq]
  have e := List.all_eq_true.mp (List.all_eq_true.mp h k (mem_steps h0 h1)) p
  refine e ?_
  have : p = 1 ∨ p = 2 ∨ p = 3 ∨ p = 4 := by omega
  rcases this with rfl | rfl | rfl | rfl <;> simp
theorem day_all {m k a p : Int} (hm : 3 ≤ m ∧ m ≤ 6) (h0 : 1 - m ≤ k) (h1 : k < 2 * m - 1) (ha : 1 ≤ a ∧ a ≤ 7) (hp : 1 ≤ p ∧ p ≤ 4) : dayGood m k a p = true := by
  have h : m = 3 ∨ m = 4 ∨ m = 5 ∨ m = 6 := by omega
  have h' : a = 1 ∨ a = 2 ∨ a = 3 ∨ a = 4 ∨ a = 5 ∨ a = 6 ∨ a = 7 := by omega
  rcases h with rfl | rfl | rfl | rfl
  · rcases h' with rfl | rfl | rfl | rfl | rfl | rfl | rfl
    · exact day_of (M := 3) day_3_1 h0 h1 hp
    · exact day_of (M := 3) day_3_2 h0 h1 hp
    · exact day_of (M := 3) day_3_3 h0 h1 hp
    · exact day_of (M := 3) day_3_4 h0 h1 hp
    · exact day_of (M := 3) day_3_5 h0 h1 hp
    · exact day_of (M := 3) day_3_6 h0 h1 hp
    · exact day_of (M := 3) day_3_7 h0 h1 hp
  · rcases h' with rfl | rfl | rfl | rfl | rfl | rfl | rfl
    · exact day_of (M := 4) day_4_1 h0 h1 hp
    · exact day_of (M := 4) day_4_2 h0 h1 hp
    · exact day_of (M := 4) day_4_3 h0 h1 hp
    · exact day_of (M := 4) day_4_4 h0 h1 hp
    · exact day_of (M := 4) day_4_5 h0 h1 hp
    · exact day_of (M := 4) day_4_6 h0 h1 hp
    · exact day_of (M := 4) day_4_7 h0 h1 hp
  · rcases h' with rfl | rfl | rfl | rfl | rfl | rfl | rfl
    · exact day_of (M := 5) day_5_1 h0 h1 hp
    · exact day_of (M := 5) day_5_2 h0 h1 hp
    · exact day_of (M := 5) day_5_3 h0 h1 hp
    · exact day_of (M := 5) day_5_4 h0 h1 hp
    · exact day_of (M := 5) day_5_5 h0 h1 hp
    · exact day_of (M := 5) day_5_6 h0 h1 hp
    · exact day_of (M := 5) day_5_7 h0 h1 hp
  · rcases h' with rfl | rfl | rfl | rfl | rfl | rfl | rfl
    · exact day_of (M := 6) day_6_1 h0 h1 hp
    · exact day_of (M := 6) day_6_2 h0 h1 hp
    · exact day_of (M := 6) day_6_3 h0 h1 hp
    · exact day_of (M := 6) day_6_4 h0 h1 hp
    · exact day_of (M := 6) day_6_5 h0 h1 hp
    · exact day_of (M := 6) day_6_6 h0 h1 hp
    · exact day_of (M := 6) day_6_7 h0 h1 hp

end
end Mine

namespace Mine
section
open PySem PySem.W PyProof.Rows PySem.Calls PySem.Spec
set_option maxRecDepth 100000
theorem hls_dayUse {w : World} {mean : ExcName → Option Value} {mg mb : Str → Option Value} {mm k i p : Int} {t1 t2 t3 : Tok}
    {dp un : Nat} {gd : Option (List Code)} {cn : Str} {cs : Scope} {a : Addr} {ccd : Value} {cl : List (Str × Addr)} {outer : List Env} {A₀ : Around} {base h₀ : Heap} {L : Addr} {m : Str → Option Value} {news : List (Addr × Obj)} {s : Shared} {Q E : Value → Shared → Prop}
    (B : Below A₀ base outer h₀) (F : Fr h₀ L s.heap m) (X : (KK w).In h₀) (N : News h₀ L s.heap news) (T : Top hd.view_39 loose0 mean mg mb h₀) (hk : cs.kind = .function) (hd : dp + 2 < recursionLimit) (hu : un + 8 * 2 < cLine)
    (ret : ∀ D t1 t2 t3 h' tk', (∀ q ∈ news, q.1 < D) → Fr h₀ L h' m → News h₀ L h' ((D, { cls := .type "tuple", data := .seq #[.float (dayRGB mm k i p).1 t1, .float (dayRGB mm k i p).2.1 t2, .float (dayRGB mm k i p).2.2 t3] }) :: news) → Q (.ref D) { s with heap := h', toks := tk' }) :
    wpAny (model prog w) (ktrTop dp un gd cn cs L a ccd cl outer) (call (.ref 57) [.float (quo (60 * (k * Int.fdiv 1440 mm)) 86400) t1, .float (quo i 8) t2, .float (quo p 4) t3]) Q E s :=
  hls_use B F X N T hk hd hu ret
theorem rgb_dayUse {w : World} {mean : ExcName → Option Value} {mg mb : Str → Option Value} {mm k i p : Int} {t1 t2 t3 : Tok} (hp : rgbOk (dayRGB mm k i p).1 (dayRGB mm k i p).2.1 (dayRGB mm k i p).2.2 = true)
    {dp un : Nat} {gd : Option (List Code)} {cn : Str} {cs : Scope} {a : Addr} {ccd : Value} {cl : List (Str × Addr)} {outer : List Env} {A₀ : Around} {base h₀ : Heap} {L : Addr} {m : Str → Option Value} {news : List (Addr × Obj)} {s : Shared} {Q E : Value → Shared → Prop}
    (B : Below A₀ base outer h₀) (F : Fr h₀ L s.heap m) (X : (KK w).In h₀) (N : News h₀ L s.heap news) (T : Top hd.view_39 loose0 mean mg mb h₀) (hk : cs.kind = .function) (hd : dp + 1 < recursionLimit) (hu : un + 8 * 1 < cLine)
    (ret : ∀ D t1 t2 t3 h' tk', (∀ q ∈ news, q.1 < D) → Fr h₀ L h' m → News h₀ L h' ((D, { cls := .type "tuple", data := .seq #[.float (dayHLS mm k i p).1 t1, .float (dayHLS mm k i p).2.1 t2, .float (dayHLS mm k i p).2.2 t3] }) :: news) → Q (.ref D) { s with heap := h', toks := tk' }) :
    wpAny (model prog w) (ktrTop dp un gd cn cs L a ccd cl outer) (call (.ref 50) [.float (dayRGB mm k i p).1 t1, .float (dayRGB mm k i p).2.1 t2, .float (dayRGB mm k i p).2.2 t3]) Q E s :=
  rgb_use B F X N T hk hd hu hp ret

end
end Mine

namespace Mine
section
open PySem PySem.W PyProof.Rows PySem.Calls PySem.Spec PyProof.V
set_option maxRecDepth 100000

local macro_rules | `(tactic| walk_at "binaryOp Div int int") => `(tactic| (k_here; (refine' div_K rfl ?ka ?kb ?_); (case ka => omega); (case kb => decide); k_whole; (try dsimp only)))
local macro_rules | `(tactic| walk_at "binaryOp Mult int float") => `(tactic| (k_here; (refine' mul_K ?ka ?_); (case ka => first | decide | omega); k_whole; (try dsimp only)))
local macro_rules | `(tactic| walk_at "call builtin:round") => `(tactic| (k_here; first | (refine' round_V rfl ?ka ?kb ?_; (case ka => with_reducible assumption); (case kb => with_reducible assumption)) | (refine' round_K rfl ?ka ?_; (case ka => with_reducible assumption)); k_whole; (try dsimp only)))
local macro_rules | `(tactic| walk_at "call ref") => `(tactic| (k_here; first
  | ((with_reducible show wpAny _ _ (PySem.call (Value.ref 57) _) _ _ _); with_unfolding_all refine' hls_dayUse ?k1 ?k2 ?k3 ?k4 ?k5 ?kK ?kd ?ku ?_; (case k1 => k_asm); (case k2 => k_asm); (case k3 => k_asm); (case k4 => k_asm); (case k5 => k_asm); (case kK => first | exact rfl | assumption); (case kd => ktr_room); (case ku => ktr_units); intro D9 u9 v9 x9 h9 tk9 l9 F9 N9)
  | ((with_reducible show wpAny _ _ (PySem.call (Value.ref 50) _) _ _ _); with_unfolding_all refine' rgb_dayUse ?kp ?k1 ?k2 ?k3 ?k4 ?k5 ?kK ?kd ?ku ?_; (case kp => with_reducible assumption); (case k1 => k_asm); (case k2 => k_asm); (case k3 => k_asm); (case k4 => k_asm); (case k5 => k_asm); (case kK => first | exact rfl | assumption); (case kd => ktr_room); (case ku => ktr_units); intro D9 u9 v9 x9 h9 tk9 l9 F9 N9)
  | ((with_reducible show wpAny _ _ (PySem.call (Value.ref 91) _) _ _ _); with_unfolding_all refine' zone_dayUse ?kx ?ky ?kz ?k1 ?k2 ?k3 ?k4 ?k5 ?kK ?kd ?ku ?_; (case kx => assumption); (case ky => omega); (case kz => omega); (case k1 => k_asm); (case k2 => k_asm); (case k3 => k_asm); (case k4 => k_asm); (case k5 => k_asm); (case kK => first | exact rfl | assumption); (case kd => ktr_room); (case ku => ktr_units); intro t9 h9 tk9 F9 N9)
  | ((with_reducible show wpAny _ _ (PySem.call (Value.ref 77) _) _ _ _); with_unfolding_all refine' tz_dayUse ?kx ?ky ?kz ?k1 ?k2 ?k3 ?k4 ?k5 ?kK ?kd ?ku ?_; (case kx => assumption); (case ky => omega); (case kz => omega); (case k1 => k_asm); (case k2 => k_asm); (case k3 => k_asm); (case k4 => k_asm); (case k5 => k_asm); (case kK => first | exact rfl | assumption); (case kd => ktr_room); (case ku => ktr_units); intro t9 h9 tk9 F9 N9)
  ; (try dsimp only); (try k_fold)))

local macro_rules | `(tactic| walk_at "execs cons") => `(tactic| (k_here; exfalso; contradiction))
local macro_rules | `(tactic| walk_at "setItem ref int") => `(tactic| (k_here; (refine' mir_set ?kF ?kN ?kd ?kf ?ki ?ks ?kn ?kk ?kl ?ke ?_); (case kF => k_asm); (case kN => k_asm); (case kd => k_dflt assumption); (case kf => k_dflt assumption); (case kn => k_dflt assumption); (case ki => k_mem); (case ks => (intro p9 q9; (repeat (refine List.Mem.tail _ ?_)); exact q9)); (case kk => k_dflt assumption); (case kl => omega); (case ke => with_reducible assumption); k_whole; intro h9 o9 v9 F9 N9 a9 b9; (try dsimp only); (try k_fold)))
local macro_rules | `(tactic| walk_at "pyIter ref") => `(tactic| (k_here; k_dflt (refine' mir_iterM ?k0 rfl ?ka ?kd ?ke ?kf ?kg ?kh (held ?_) (held ?_)); (case ka => k_dflt assumption); (case k0 => k_dflt assumption); (case kd => k_dflt assumption); (case ke => k_dflt assumption); (case kf => k_dflt assumption); (case kg => k_dflt assumption); (case kh => k_dflt assumption)))

def DayDictS (w : World) (m : Int) (v : Value) (nx : List (Addr × Obj)) : Prop := ∃ D o kvs, v = .ref D ∧ nx = [(D, o)] ∧ o.IsDictOf (PySem.intKind prog w) kvs ∧ FlatPairs PyData.int kvs (kdfD (laid (modM m) (rangeKs (1 - m) (3 * m - 2).toNat))) ∧ (D == sysModules) = false
set_option maxHeartbeats 8000000 in
theorem mir_says (w : World) (mean mg mb) (m turn : Int) (t1 t2 : Tok) (hm : 3 ≤ m ∧ m ≤ 6) (ht : 0 ≤ turn ∧ turn ≤ 10000000) :
    Says 12 w mean mg mb 98 [.int m t1, .int turn t2] (fun _ => True) (DayDictS w m) := by
  unfold Says KK prog
  k_fill
  intro dp un gd cn cs a ccd cl outer A₀ base h₀ L mm news s Q E B F X N T hk hd hu hp hret
  refine wpAny_call ?_
  k_dflt cell_enter
  k_steps
  · unfold Held
    intro o kvs pre k t u h tk rest hk hl hlt hne hd hf F9 N9
    have hb := min_day (k := k) hm (by omega) (by omega)
    have ha7 := Int.fmod_lt_of_pos turn (show (0 : Int) < 7 by decide)
    have ha0 := Int.fmod_nonneg_of_pos turn (show (0 : Int) < 7 by decide)
    have hp4 := Int.fmod_lt_of_pos (turn.fdiv 7) (show (0 : Int) < 4 by decide)
    have hp0 := Int.fmod_nonneg_of_pos (turn.fdiv 7) (show (0 : Int) < 4 by decide)
    obtain ⟨d1, d2, d3, d4, d5, d6, d7, d8⟩ := day_facts' (day_all (k := k) (a := 1 + turn.fmod 7) (p := 1 + (turn.fdiv 7).fmod 4) hm (by omega) (by omega) (by omega) (by omega))
    (try dsimp only)
    k_steps
    all_goals (refine' mir_end ?kF ?kN ?ka ?kb ?ke; (case kF => k_asm); (case kN => k_asm); (case ka => k_dflt assumption); (case kb => k_dflt assumption))
    intro z hz hs
    have n1 : z ≠ Str.ofString "minutes" := not_stored hs (by decide)
    have n2 : z ≠ Str.ofString "told" := not_stored hs (by decide)
    have n3 : z ≠ Str.ofString "red" := not_stored hs (by decide)
    have n4 : z ≠ Str.ofString "green" := not_stored hs (by decide)
    have n5 : z ≠ Str.ofString "blue" := not_stored hs (by decide)
    have n6 : z ≠ Str.ofString "hue" := not_stored hs (by decide)
    have n7 : z ≠ Str.ofString "height" := not_stored hs (by decide)
    have n8 : z ≠ Str.ofString "share" := not_stored hs (by decide)
    have n9 : z ≠ Str.ofString "place" := not_stored hs (by decide)
    simp only [n1, n2, n3, n4, n5, n6, n7, n8, n9, hz, hs, if_false, Bool.false_eq_true]
  · unfold Held
    intro o kvs u h tk hd hf F9 N9
    (try dsimp only)
    k_steps
    all_goals (refine' says_ret1 (Q := Q) (s := s) hret ?k1 ?k2 ?k3 ?k4 ?k5 ?k6; (case k1 => k_asm); (case k2 => assumption); (case k3 => exact fun p hp => .tail _ hp); (case k4 => exact .head _); (case k5 => assumption); (case k6 => exact ⟨_, o, kvs, rfl, rfl, hd, hf, by assumption⟩))
  all_goals exact default

theorem mir_use {w : World} {mean : ExcName → Option Value} {mg mb : Str → Option Value} {m turn : Int} {t1 t2 : Tok} (hm : 3 ≤ m ∧ m ≤ 6) (ht : 0 ≤ turn ∧ turn ≤ 10000000)
    {dp un : Nat} {gd : Option (List Code)} {cn : Str} {cs : Scope} {a : Addr} {ccd : Value} {cl : List (Str × Addr)} {outer : List Env} {A₀ : Around} {base h₀ : Heap} {L : Addr} {mm : Str → Option Value} {news : List (Addr × Obj)} {s : Shared} {Q E : Value → Shared → Prop}
    (B : Below A₀ base outer h₀) (F : Fr h₀ L s.heap mm) (X : (KK w).In h₀) (N : News h₀ L s.heap news) (T : Top hd.view_39 loose0 mean mg mb h₀) (hk : cs.kind = .function) (hd : dp + 12 < recursionLimit) (hu : un + 8 * 12 < cLine)
    (ret : ∀ D o kvs h' tk', (D == sysModules) = false → (∀ q ∈ news, q.1 < D) → o.IsDictOf (PySem.intKind prog w) kvs → FlatPairs PyData.int kvs (kdfD (laid (modM m) (rangeKs (1 - m) (3 * m - 2).toNat))) → Fr h₀ L h' mm → News h₀ L h' ((D, o) :: news) → Q (.ref D) { s with heap := h', toks := tk' }) :
    wpAny (model prog w) (ktrTop dp un gd cn cs L a ccd cl outer) (call (.ref 98) [.int m t1, .int turn t2]) Q E s :=
  says_use (mir_says w mean mg mb m turn t1 t2 hm ht) B F X N T hk hd hu trivial (fun v nx h' tk' r l F' N' => by
    obtain ⟨D, o, kvs, e, e', i1, i2, i3⟩ := r
    subst e; subst e'
    exact ret D o kvs h' tk' i3 (fun q hq => l q hq _ (.head _)) i1 i2 F' N')

end
end Mine

namespace Mine
section
open PySem PySem.W PyProof.Rows PySem.Calls PySem.Spec PyProof.V PySem.W.KStt
set_option maxRecDepth 100000

/-- the names that a loop turns, as the frame holds them -/
def psOf {X : Type} (nm : X → List (Str × Int)) (c : X × (Str → Tok)) : List (Str × Value) := (nm c.1).map fun p => (p.1, Value.int p.2 (c.2 p.1))
def tokIn (m : Str → Option Value) (y : Str) : Tok := match m y with
  | some (.int _ t) => t
  | _ => 0
def ItEnd {X : Type} (nm : X → List (Str × Int)) (h₀ : Heap) (L : Addr) (v : Str) (stored : List Str) (m₀ : Str → Option Value) (led : List (Addr × Obj)) (x' : X) (s₁ s₂ : Shared) : Prop :=
  ∃ h' tk' m', s₂ = { s₁ with heap := h', toks := tk' } ∧ Fr h₀ L h' m' ∧ News h₀ L h' led ∧ (∀ p ∈ nm x', ∃ t, m' p.1 = some (.int p.2 t)) ∧ (∀ z, z ≠ v → (∀ p ∈ nm x', z ≠ p.1) → stored.contains z = false → m' z = m₀ z)
def ItPost {X : Type} (nm : X → List (Str × Int)) (h₀ : Heap) (L : Addr) (v : Str) (stored : List Str) (m₀ : Str → Option Value) (led : List (Addr × Obj)) (x' : X) (s₁ : Shared) (Q : Flow → Shared → Prop) (f : Flow) (s₂ : Shared) : Prop :=
  match f with
  | .ret v => Q (.ret v) s₂
  | .brk => Q .next s₂
  | _ => ItEnd nm h₀ L v stored m₀ led x' s₁ s₂
theorem it_end {X : Type} {nm : X → List (Str × Int)} {h₀ : Heap} {L : Addr} {v : Str} {stored : List Str} {m₀ m' : Str → Option Value} {led : List (Addr × Obj)} {x' : X} {s : Shared} {Q : Flow → Shared → Prop} {h' : Heap} {tk' : Nat}
    (F : Fr h₀ L h' m') (N : News h₀ L h' led) (a : ∀ p ∈ nm x', ∃ t, m' p.1 = some (.int p.2 t)) (b : ∀ z, z ≠ v → (∀ p ∈ nm x', z ≠ p.1) → stored.contains z = false → m' z = m₀ z) :
    ItPost nm h₀ L v stored m₀ led x' s Q .next { s with heap := h', toks := tk' } := ⟨h', tk', m', rfl, F, N, a, b⟩

section
variable {prog : Program} {w : World} {A : Around} {E : Value → Shared → Prop} {s : Shared} {env : Env} {h₀ : Heap} {v : Str} {body : List Stmt} {Q : Flow → Shared → Prop}
theorem it_up {X : Type} {nm : X → List (Str × Int)} {m₀ : Str → Option Value} {kp own : List (Addr × Obj)} {stored : List Str} {P : List Int → X → Prop} {pre : List Int} {x' : X} {s₁ s₂ : Shared} (hP : P pre x')
    (hh : ItEnd nm h₀ env.locals v stored m₀ (kp ++ own) x' s₁ s₂) :
    InvEndN h₀ env.locals (KstS (σ := X × (Str → Tok)) (fun _ => kp) (psOf nm) (fun _ => True) v stored m₀ (fun pre c => P pre c.1) pre) own (kp.map (·.1)) s₁ s₂ := by
  obtain ⟨h', tk', m', e, F', N', i1, i2⟩ := hh
  refine ⟨h', tk', m', kp ++ own, kp, e, F', N', fun p hp => List.mem_append_left _ hp, fun p hp => List.mem_append_right _ hp, rfl, ⟨(x', tokIn m'), rfl, trivial, ?_, ?_, hP⟩⟩
  · intro p hp
    obtain ⟨q, hq, rfl⟩ := List.mem_map.mp hp
    obtain ⟨t, ht⟩ := i1 q hq
    show m' q.1 = some (Value.int q.2 (tokIn m' q.1))
    rw [ht]
    unfold tokIn
    rw [ht]
  · intro z hz hn hs
    exact i2 z hz (fun p hp => hn (p.1, Value.int p.2 (tokIn m' p.1)) (List.mem_map.mpr ⟨p, hp, rfl⟩)) hs

/-- a loop over a text's signs that turns some ints -/
theorem txt_iter {X : Type} (nm : X → List (Str × Int)) (f : X → Int → X) (x₀ : X) (Inv : X → Prop) {xt : Str} {tx : Tok} {m₀ : Str → Option Value} {kp : List (Addr × Obj)} (stored : List Str)
    (hh : A.handled = none) (F : Fr h₀ env.locals s.heap m₀) (N : News h₀ env.locals s.heap kp) (hk : ∀ p ∈ nm x₀, ∃ t, m₀ p.1 = some (.int p.2 t)) (h0 : Inv x₀) (hi : ∀ x n, n ∈ codes xt → Inv x → Inv (f x n))
    (turn : ∀ (x : X) (tf : Str → Tok) (n : Nat) t (u : Str → Option Value) h tk own, (n : Int) ∈ codes xt → Inv x →
      Fr h₀ env.locals h (fun y => if y = v then some (.str ⟨#[n]⟩ t) else kstB (fun z => if stored.contains z then u z else m₀ z) (psOf nm (x, tf)) y) → News h₀ env.locals h (kp ++ own) →
      wpAny (model prog w) A (execs body env) (ItPost nm h₀ env.locals v stored m₀ (kp ++ own) (f x n) { s with heap := h, toks := tk } Q) E { s with heap := h, toks := tk })
    (done : ∀ (tf : Str → Tok) (u : Str → Option Value) h tk, Inv ((codes xt).foldl f x₀) → Fr h₀ env.locals h (fun y => if y = v then u y else kstB (fun z => if stored.contains z then u z else m₀ z) (psOf nm ((codes xt).foldl f x₀, tf)) y) → News h₀ env.locals h kp → Q .next { s with heap := h, toks := tk }) :
    wpAny (model prog w) A (pyIter (.str xt tx)) (fun it s₂ => LoopAtV prog w A h₀ env v body Q E it s₂) E s := by
  refine kst_text (σ := X × (Str → Tok)) (fun _ => kp) (psOf nm) (fun _ => True) stored (fun pre c => c.1 = pre.foldl f x₀ ∧ Inv c.1) (x₀, tokIn m₀) hh F N trivial ?_ ⟨rfl, h0⟩ ?_ ?_
  · intro p hp
    obtain ⟨q, hq, rfl⟩ := List.mem_map.mp hp
    obtain ⟨t, ht⟩ := hk q hq
    show m₀ q.1 = some (Value.int q.2 (tokIn m₀ q.1))
    rw [ht]
    unfold tokIn
    rw [ht]
  · rintro ⟨x, tf⟩ pre post n t u h tk own hc _ _ ⟨h1, h2⟩ F₁ N₁
    have hmem : (n : Int) ∈ codes xt := by rw [hc]; exact List.mem_append_right _ (.head _)
    refine wpAny_mono (turn x tf n t u h tk own hmem h2 F₁ N₁) ?_ (fun _ _ e => e)
    have hP : f x n = (pre ++ [(n : Int)]).foldl f x₀ ∧ Inv (f x n) := ⟨by rw [List.foldl_append]; dsimp only at h1; rw [h1]; rfl, hi x n hmem h2⟩
    intro fl s₂ hp
    cases fl with
    | ret v => exact hp
    | brk => exact hp
    | next => exact it_up (P := fun pre c => c = pre.foldl f x₀ ∧ Inv c) hP hp
    | cont => exact it_up (P := fun pre c => c = pre.foldl f x₀ ∧ Inv c) hP hp
  · rintro ⟨x, tf⟩ u h tk _ ⟨h1, h2⟩ F₁ N₁
    dsimp only at h1
    subst h1
    exact done tf u h tk h2 F₁ N₁

/-- .. over a range from nought -/
theorem rng_iter {X : Type} (nm : X → List (Str × Int)) (f : X → Int → X) (x₀ : X) (Inv : X → Prop) {r : Addr} {b : Int} {t₀ u₀ v₀ : Tok} {m₀ : Str → Option Value} {kp : List (Addr × Obj)} (stored : List Str)
    (hh : A.handled = none) (hr : IsRange s.heap r 0 b 1 t₀ u₀ v₀) (hsmall : Builtin.Range.small 0 b 1 = true) (F : Fr h₀ env.locals s.heap m₀) (N : News h₀ env.locals s.heap kp) (hk : ∀ p ∈ nm x₀, ∃ t, m₀ p.1 = some (.int p.2 t)) (h0 : Inv x₀) (hi : ∀ x n, 0 ≤ n → n < b → Inv x → Inv (f x n))
    (turn : ∀ (x : X) (tf : Str → Tok) (n : Int) t (u : Str → Option Value) h tk own, 0 ≤ n → n < b → Inv x →
      Fr h₀ env.locals h (fun y => if y = v then some (.int n t) else kstB (fun z => if stored.contains z then u z else m₀ z) (psOf nm (x, tf)) y) → News h₀ env.locals h (kp ++ own) →
      wpAny (model prog w) A (execs body env) (ItPost nm h₀ env.locals v stored m₀ (kp ++ own) (f x n) { s with heap := h, toks := tk } Q) E { s with heap := h, toks := tk })
    (done : ∀ (tf : Str → Tok) (u : Str → Option Value) h tk, Inv ((rangeKs 0 b.toNat).foldl f x₀) → Fr h₀ env.locals h (fun y => if y = v then u y else kstB (fun z => if stored.contains z then u z else m₀ z) (psOf nm ((rangeKs 0 b.toNat).foldl f x₀, tf)) y) → News h₀ env.locals h kp → Q .next { s with heap := h, toks := tk }) :
    wpAny (model prog w) A (pyIter (.ref r)) (fun it s₂ => LoopAtV prog w A h₀ env v body Q E it s₂) E s := by
  have hn := rangeSize_nat 0 b
  rw [show b - 0 = b by omega] at hn
  refine kst_range (σ := X × (Str → Tok)) (fun _ => kp) (psOf nm) (fun _ => True) stored (fun pre c => c.1 = pre.foldl f x₀ ∧ Inv c.1) (x₀, tokIn m₀) hh hr hsmall hn F N trivial ?_ ⟨rfl, h0⟩ ?_ ?_
  · intro p hp
    obtain ⟨q, hq, rfl⟩ := List.mem_map.mp hp
    obtain ⟨t, ht⟩ := hk q hq
    show m₀ q.1 = some (Value.int q.2 (tokIn m₀ q.1))
    rw [ht]
    unfold tokIn
    rw [ht]
  · rintro ⟨x, tf⟩ pre k t u h tk own hk' hl _ _ ⟨h1, h2⟩ F₁ N₁
    have b0 : 0 ≤ k := by omega
    have b1 : k < b := by omega
    refine wpAny_mono (turn x tf k t u h tk own b0 b1 h2 F₁ N₁) ?_ (fun _ _ e => e)
    have hP : f x k = (pre ++ [k]).foldl f x₀ ∧ Inv (f x k) := ⟨by rw [List.foldl_append]; dsimp only at h1; rw [h1]; rfl, hi x k b0 b1 h2⟩
    intro fl s₂ hp
    cases fl with
    | ret v => exact hp
    | brk => exact hp
    | next => exact it_up (P := fun pre c => c = pre.foldl f x₀ ∧ Inv c) hP hp
    | cont => exact it_up (P := fun pre c => c = pre.foldl f x₀ ∧ Inv c) hP hp
  · rintro ⟨x, tf⟩ u h tk _ ⟨h1, h2⟩ F₁ N₁
    dsimp only at h1
    subst h1
    exact done tf u h tk h2 F₁ N₁
end

end
end Mine

namespace Mine
section
open PySem PySem.W PyProof.Rows PySem.Calls PySem.Spec PyProof.V PySem.W.KStt
set_option maxRecDepth 100000

theorem laid_has (g : Int → Int) (pre : List Int) (k : Int) (h : k ∈ pre) : kdfHas (laid g pre) k = true := by
  unfold kdfHas laid
  rw [List.any_eq_true]
  exact ⟨(k, g k), List.mem_map.mpr ⟨k, h, rfl⟩, by simp⟩
theorem laid_look (g : Int → Int) (k : Int) : ∀ pre : List Int, k ∈ pre → kdfLook (laid g pre) k 0 = g k
  | [], h => nomatch h
  | q :: r, h => by
    unfold kdfLook laid
    by_cases e : q = k
    · subst e
      simp
    · rw [List.map_cons, List.find?_cons_of_neg (by simpa using e)]
      rcases List.mem_cons.mp h with h | h
      · exact absurd h.symm e
      · exact laid_look g k r h
theorem day_mem {m k : Int} (h0 : 1 - m ≤ k) (h1 : k < 2 * m - 1) : k ∈ rangeKs (1 - m) (3 * m - 2).toNat := by
  unfold rangeKs
  exact List.mem_map.mpr ⟨(k - (1 - m)).toNat, List.mem_range.mpr (by omega), by omega⟩

/-- one sign's turn of the three hues -/
def stepS (m : Int) (x : Int × Int × Int) (c : Int) : Int × Int × Int :=
  if c = 13 then (modM m (2 * x.1 - x.2.1), x.1, x.2.2) else if c = 10 then (x.1, x.2.2, modM m (2 * x.2.2 - x.2.1)) else x
def nmS (x : Int × Int × Int) : List (Str × Int) := [(Str.ofString "a", x.1), (Str.ofString "b", x.2.1), (Str.ofString "c", x.2.2)]
def InS (m : Int) (x : Int × Int × Int) : Prop := (0 ≤ x.1 ∧ x.1 < m) ∧ (0 ≤ x.2.1 ∧ x.2.1 < m) ∧ (0 ≤ x.2.2 ∧ x.2.2 < m)
theorem modM_in {m k : Int} (hm : 0 < m) : 0 ≤ modM m k ∧ modM m k < m := ⟨Int.fmod_nonneg_of_pos _ hm, Int.fmod_lt_of_pos _ hm⟩
theorem stepS_in {m : Int} (hm : 0 < m) {x : Int × Int × Int} {c : Int} (h : InS m x) : InS m (stepS m x c) := by
  unfold stepS
  split
  · exact ⟨modM_in hm, h.1, h.2.2⟩
  · split
    · exact ⟨h.1, h.2.2, modM_in hm⟩
    · exact h
def runS (m : Int) (z : List Int) (mid right : Int) : Int × Int × Int := z.foldl (stepS m) (0, mid, right)
/-- how many ways to begin come out as they went in: one row of them, and all -/
def rowS (m : Int) (z : List Int) (mid : Int) (ways right : Int) : Int := if runS m z mid right = (0, mid, right) then ways + 1 else ways
def allS (m : Int) (z : List Int) (ways mid : Int) : Int := (rangeKs 0 m.toNat).foldl (rowS m z mid) ways
def waysS (m : Int) (z : List Int) : Int := (rangeKs 0 m.toNat).foldl (allS m z) 0
def nmW (x : Int) : List (Str × Int) := [(Str.ofString "ways", x)]

section
variable {prog : Program} {w : World} {A : Around} {E : Value → Shared → Prop} {s : Shared}
theorem item_day {m k : Int} {d : Addr} {tk : Tok} {value slice : PySem.Expr} {Q : Value → Shared → Prop} (T : IntTab prog w s.heap d (kdfD (laid (modM m) (rangeKs (1 - m) (3 * m - 2).toNat)))) (h0 : 1 - m ≤ k) (h1 : k < 2 * m - 1) (h : ∀ t, Q (.int (modM m k) t) { s with toks := s.toks + 1 })
    (hs : subscripted slice false (.ref d) (.int k tk) = operate [.ref d, .int k tk] (getItem (.ref d) (.int k tk)) := by with_unfolding_all rfl) (hg : ∀ r, letTemporaryGo value (.ref d) r = pure () := by intro _; with_unfolding_all rfl) :
    wpAny (model prog w) A (subscriptTail value slice (.ref d) (.int k tk)) Q E s :=
  kdf_item T (laid_has _ _ _ (day_mem h0 h1)) (by rw [laid_look _ _ _ (day_mem h0 h1)]; exact h) hs hg
end
theorem small0 {m : Int} (hm : 3 ≤ m ∧ m ≤ 6) : Builtin.Range.small 0 m 1 = true := by
  have h : m = 3 ∨ m = 4 ∨ m = 5 ∨ m = 6 := by omega
  rcases h with rfl | rfl | rfl | rfl <;> decide

def midStored : List Str := [Str.ofString "right", Str.ofString "a", Str.ofString "b", Str.ofString "c", Str.ofString "sign"]
def rightStored : List Str := [Str.ofString "a", Str.ofString "b", Str.ofString "c", Str.ofString "sign"]
section
variable {prog : Program} {w : World} {A : Around} {E : Value → Shared → Prop} {s : Shared} {env : Env} {h₀ : Heap} {body : List Stmt} {Q : Flow → Shared → Prop}
theorem mid_iter {m : Int} {z : Str} {tz : Tok} {r : Addr} {t₀ u₀ v₀ t₁ : Tok} {m₀ : Str → Option Value} {kp : List (Addr × Obj)} (hm : 3 ≤ m ∧ m ≤ 6)
    (hh : A.handled = none) (hr : IsRange s.heap r 0 m 1 t₀ u₀ v₀) (F : Fr h₀ env.locals s.heap m₀) (N : News h₀ env.locals s.heap kp) (hz : m₀ (Str.ofString "signs") = some (.str z tz)) (hk : m₀ (Str.ofString "ways") = some (.int 0 t₁))
    (turn : ∀ (W : Int) (tf : Str → Tok) (n : Int) t (u : Str → Option Value) h tk own, 0 ≤ n → n < m →
      Fr h₀ env.locals h (fun y => if y = Str.ofString "middle" then some (.int n t) else if y = Str.ofString "ways" then some (.int W (tf (Str.ofString "ways"))) else if midStored.contains y then u y else m₀ y) → News h₀ env.locals h (kp ++ own) →
      wpAny (model prog w) A (execs body env) (ItPost nmW h₀ env.locals (Str.ofString "middle") midStored m₀ (kp ++ own) (allS m (codes z) W n) { s with heap := h, toks := tk } Q) E { s with heap := h, toks := tk })
    (done : ∀ (tf : Str → Tok) (u : Str → Option Value) h tk, Fr h₀ env.locals h (fun y => if y = Str.ofString "middle" then u y else if y = Str.ofString "ways" then some (.int (waysS m (codes z)) (tf (Str.ofString "ways"))) else if midStored.contains y then u y else m₀ y) → News h₀ env.locals h kp → Q .next { s with heap := h, toks := tk }) :
    wpAny (model prog w) A (pyIter (.ref r)) (fun it s₂ => LoopAtV prog w A h₀ env (Str.ofString "middle") body Q E it s₂) E s :=
  rng_iter nmW (allS m (codes z)) 0 (fun _ => True) midStored hh hr (small0 hm) F N (fun p hp => by cases hp with | head => exact ⟨t₁, hk⟩ | tail _ h => exact nomatch h) trivial (fun _ _ _ _ _ => trivial)
    (fun W tf n t u h tk own b0 b1 _ F₁ N₁ => turn W tf n t u h tk own b0 b1 F₁ N₁) (fun tf u h tk _ F₁ N₁ => done tf u h tk F₁ N₁)
theorem right_iter {m W mid : Int} {z : Str} {tz : Tok} {r : Addr} {t₀ u₀ v₀ t₁ t₂ : Tok} {m₀ : Str → Option Value} {kp : List (Addr × Obj)} (hm : 3 ≤ m ∧ m ≤ 6)
    (hh : A.handled = none) (hr : IsRange s.heap r 0 m 1 t₀ u₀ v₀) (F : Fr h₀ env.locals s.heap m₀) (N : News h₀ env.locals s.heap kp) (hz : m₀ (Str.ofString "signs") = some (.str z tz)) (hmid : m₀ (Str.ofString "middle") = some (.int mid t₂)) (hk : m₀ (Str.ofString "ways") = some (.int W t₁))
    (turn : ∀ (W : Int) (tf : Str → Tok) (n : Int) t (u : Str → Option Value) h tk own, 0 ≤ n → n < m →
      Fr h₀ env.locals h (fun y => if y = Str.ofString "right" then some (.int n t) else if y = Str.ofString "ways" then some (.int W (tf (Str.ofString "ways"))) else if rightStored.contains y then u y else m₀ y) → News h₀ env.locals h (kp ++ own) →
      wpAny (model prog w) A (execs body env) (ItPost nmW h₀ env.locals (Str.ofString "right") rightStored m₀ (kp ++ own) (rowS m (codes z) mid W n) { s with heap := h, toks := tk } Q) E { s with heap := h, toks := tk })
    (done : ∀ (tf : Str → Tok) (u : Str → Option Value) h tk, Fr h₀ env.locals h (fun y => if y = Str.ofString "right" then u y else if y = Str.ofString "ways" then some (.int (allS m (codes z) W mid) (tf (Str.ofString "ways"))) else if rightStored.contains y then u y else m₀ y) → News h₀ env.locals h kp → Q .next { s with heap := h, toks := tk }) :
    wpAny (model prog w) A (pyIter (.ref r)) (fun it s₂ => LoopAtV prog w A h₀ env (Str.ofString "right") body Q E it s₂) E s :=
  rng_iter nmW (rowS m (codes z) mid) W (fun _ => True) rightStored hh hr (small0 hm) F N (fun p hp => by cases hp with | head => exact ⟨t₁, hk⟩ | tail _ h => exact nomatch h) trivial (fun _ _ _ _ _ => trivial)
    (fun W tf n t u h tk own b0 b1 _ F₁ N₁ => turn W tf n t u h tk own b0 b1 F₁ N₁) (fun tf u h tk _ F₁ N₁ => done tf u h tk F₁ N₁)
theorem sign_iter {m mid right : Int} {z : Str} {tz : Tok} {ta tb tc tm : Tok} {m₀ : Str → Option Value} {kp : List (Addr × Obj)} (hm : 3 ≤ m ∧ m ≤ 6) (hmm : m₀ (Str.ofString "m") = some (.int m tm))
    (hh : A.handled = none) (F : Fr h₀ env.locals s.heap m₀) (N : News h₀ env.locals s.heap kp) (ha : m₀ (Str.ofString "a") = some (.int 0 ta)) (hb : m₀ (Str.ofString "b") = some (.int mid tb)) (hc : m₀ (Str.ofString "c") = some (.int right tc))
    (hb0 : 0 ≤ mid) (hb1 : mid < m) (hc0 : 0 ≤ right) (hc1 : right < m)
    (turn : ∀ (a b c : Int) (tf : Str → Tok) (n : Nat) t (u : Str → Option Value) h tk own, 0 ≤ a → a < m → 0 ≤ b → b < m → 0 ≤ c → c < m →
      Fr h₀ env.locals h (fun y => if y = Str.ofString "sign" then some (.str ⟨#[n]⟩ t) else if y = Str.ofString "a" then some (.int a (tf (Str.ofString "a"))) else if y = Str.ofString "b" then some (.int b (tf (Str.ofString "b"))) else if y = Str.ofString "c" then some (.int c (tf (Str.ofString "c"))) else m₀ y) → News h₀ env.locals h (kp ++ own) →
      wpAny (model prog w) A (execs body env) (ItPost nmS h₀ env.locals (Str.ofString "sign") [] m₀ (kp ++ own) (stepS m (a, b, c) n) { s with heap := h, toks := tk } Q) E { s with heap := h, toks := tk })
    (done : ∀ (tf : Str → Tok) (u : Str → Option Value) h tk, Fr h₀ env.locals h (fun y => if y = Str.ofString "sign" then u y else if y = Str.ofString "a" then some (.int (runS m (codes z) mid right).1 (tf (Str.ofString "a"))) else if y = Str.ofString "b" then some (.int (runS m (codes z) mid right).2.1 (tf (Str.ofString "b"))) else if y = Str.ofString "c" then some (.int (runS m (codes z) mid right).2.2 (tf (Str.ofString "c"))) else m₀ y) → News h₀ env.locals h kp → Q .next { s with heap := h, toks := tk }) :
    wpAny (model prog w) A (pyIter (.str z tz)) (fun it s₂ => LoopAtV prog w A h₀ env (Str.ofString "sign") body Q E it s₂) E s :=
  txt_iter nmS (stepS m) (0, mid, right) (InS m) [] hh F N (fun p hp => by
      cases hp with
      | head => exact ⟨ta, ha⟩
      | tail _ hp => cases hp with
        | head => exact ⟨tb, hb⟩
        | tail _ hp => cases hp with
          | head => exact ⟨tc, hc⟩
          | tail _ hp => exact nomatch hp)
    ⟨⟨by omega, by omega⟩, ⟨hb0, hb1⟩, ⟨hc0, hc1⟩⟩ (fun x n _ h => stepS_in (by omega) h)
    (fun x tf n t u h tk own _ hx F₁ N₁ => turn x.1 x.2.1 x.2.2 tf n t u h tk own hx.1.1 hx.1.2 hx.2.1.1 hx.2.1.2 hx.2.2.1 hx.2.2.2 F₁ N₁) (fun tf u h tk _ F₁ N₁ => done tf u h tk F₁ N₁)
end

theorem news_drop {h₀ h : Heap} {L : Addr} {p : Addr × Obj} {l : List (Addr × Obj)} (N : News h₀ L h (p :: l)) : News h₀ L h l := fun q hq => N q (.tail _ hq)
theorem cr_is : Str.ofString "\r" = ⟨#[13]⟩ := by decide +kernel
theorem lf_is : Str.ofString "\n" = ⟨#[10]⟩ := by decide +kernel
theorem sign_yes {n c : Nat} {d : Str} (hd : d = ⟨#[c]⟩) (h : ((⟨#[n]⟩ : Str) == d) = true) : n = c := by
  have e := eq_of_beq h
  rw [hd] at e
  injection e with e
  injection e with e
  injection e
theorem sign_no {n c : Nat} {d : Str} (hd : d = ⟨#[c]⟩) (h : ((⟨#[n]⟩ : Str) == d) = false) : n ≠ c := fun e => by
  subst e
  rw [hd] at h
  simp at h
theorem step_cr {m a b c : Int} {n : Nat} (h : ((⟨#[n]⟩ : Str) == Str.ofString "\r") = true) : stepS m (a, b, c) (n : Int) = (modM m (2 * a - b), a, c) := by
  have e := sign_yes cr_is h
  subst e
  rfl
theorem step_lf {m a b c : Int} {n : Nat} (h : ((⟨#[n]⟩ : Str) == Str.ofString "\n") = true) : stepS m (a, b, c) (n : Int) = (a, c, modM m (2 * c - b)) := by
  have e := sign_yes lf_is h
  subst e
  rfl
theorem step_no {m a b c : Int} {n : Nat} (h1 : ((⟨#[n]⟩ : Str) == Str.ofString "\r") = false) (h2 : ((⟨#[n]⟩ : Str) == Str.ofString "\n") = false) : stepS m (a, b, c) (n : Int) = (a, b, c) := by
  have e1 := sign_no cr_is h1
  have e2 := sign_no lf_is h2
  unfold stepS
  rw [if_neg (by omega), if_neg (by omega)]
theorem row_yes {m W mid right : Int} {z : List Int} (h : ((runS m z mid right).1 == 0 && ((runS m z mid right).2.1 == mid && (runS m z mid right).2.2 == right)) = true) : rowS m z mid W right = W + 1 := by
  simp only [Bool.and_eq_true, beq_iff_eq] at h
  unfold rowS
  exact if_pos (Prod.ext h.1 (Prod.ext h.2.1 h.2.2))
theorem row_no {m W mid right : Int} {z : List Int} (h : ((runS m z mid right).1 == 0 && ((runS m z mid right).2.1 == mid && (runS m z mid right).2.2 == right)) = false) : rowS m z mid W right = W := by
  unfold rowS
  refine if_neg (fun e => ?_)
  rw [e] at h
  simp at h
theorem all_nmS {m' : Str → Option Value} {x : Int × Int × Int} (ha : ∃ t, m' (Str.ofString "a") = some (.int x.1 t)) (hb : ∃ t, m' (Str.ofString "b") = some (.int x.2.1 t)) (hc : ∃ t, m' (Str.ofString "c") = some (.int x.2.2 t)) : ∀ p ∈ nmS x, ∃ t, m' p.1 = some (.int p.2 t) := fun p hp => by
  cases hp with
  | head => exact ha
  | tail _ hp => cases hp with
    | head => exact hb
    | tail _ hp => cases hp with
      | head => exact hc
      | tail _ hp => exact nomatch hp
theorem all_nmW {m' : Str → Option Value} {x : Int} (hw : ∃ t, m' (Str.ofString "ways") = some (.int x t)) : ∀ p ∈ nmW x, ∃ t, m' p.1 = some (.int p.2 t) := fun p hp => by
  cases hp with
  | head => exact hw
  | tail _ hp => exact nomatch hp
theorem off_stored {l : List Str} {z y : Str} (h : l.contains z = false) (hy : l.contains y = true) : z ≠ y := fun e => by
  rw [e, hy] at h
  cases h

section
variable {h₀ : Heap} {L : Addr} {stored : List Str} {m₀ m' : Str → Option Value} {led : List (Addr × Obj)} {s : Shared} {Q : Flow → Shared → Prop} {h' : Heap} {tk' : Nat}
theorem it_endS {x : Int × Int × Int} (F : Fr h₀ L h' m') (N : News h₀ L h' led) (ha : ∃ t, m' (Str.ofString "a") = some (.int x.1 t)) (hb : ∃ t, m' (Str.ofString "b") = some (.int x.2.1 t)) (hc : ∃ t, m' (Str.ofString "c") = some (.int x.2.2 t))
    (e : ∀ z, z ≠ Str.ofString "sign" → z ≠ Str.ofString "a" → z ≠ Str.ofString "b" → z ≠ Str.ofString "c" → m' z = m₀ z) : ItPost nmS h₀ L (Str.ofString "sign") stored m₀ led x s Q .next { s with heap := h', toks := tk' } :=
  it_end F N (all_nmS ha hb hc) (fun z h1 h2 _ => e z h1 (h2 _ (.head _)) (h2 _ (.tail _ (.head _))) (h2 _ (.tail _ (.tail _ (.head _)))))
theorem it_endW {v : Str} {x : Int} (F : Fr h₀ L h' m') (N : News h₀ L h' led) (hw : ∃ t, m' (Str.ofString "ways") = some (.int x t))
    (e : ∀ z, z ≠ v → z ≠ Str.ofString "ways" → stored.contains z = false → m' z = m₀ z) : ItPost nmW h₀ L v stored m₀ led x s Q .next { s with heap := h', toks := tk' } :=
  it_end F N (all_nmW hw) (fun z h1 h2 h3 => e z h1 (h2 _ (.head _)) h3)
end

end
end Mine

namespace Mine
section
open PySem PySem.W PyProof.Rows PySem.Calls PySem.Spec PyProof.V PySem.W.KStt
set_option maxRecDepth 100000

local macro_rules | `(tactic| walk_at "mine dummy W1 0") => `(tactic| skip)
local macro_rules | `(tactic| walk_at "pyIter ref") => `(tactic| (k_here; k_dflt (first
  | (refine' mid_iter ?km rfl ?kr ?kF ?kN ?kz ?kw (held ?_) (held ?_); (case km => assumption); (case kr => assumption); (case kF => assumption); (case kN => assumption); (case kz => with_unfolding_all rfl); (case kw => with_unfolding_all rfl))
  | (refine' right_iter ?km rfl ?kr ?kF ?kN ?kz ?ki ?kw (held ?_) (held ?_); (case km => assumption); (case kr => assumption); (case kF => assumption); (case kN => assumption); (case kz => with_unfolding_all rfl); (case ki => with_unfolding_all rfl); (case kw => with_unfolding_all rfl)))))
local macro_rules | `(tactic| walk_at "pyIter str") => `(tactic| (k_here; k_dflt (
  refine' sign_iter ?km ?kmm rfl ?kF ?kN ?ka ?kb ?kc ?k0 ?k1 ?k2 ?k3 (held ?_) (held ?_); (case kF => assumption); (case kmm => with_unfolding_all rfl); (case km => assumption); (case kN => assumption); (case ka => with_unfolding_all rfl); (case kb => with_unfolding_all rfl); (case kc => with_unfolding_all rfl); (case k0 => assumption); (case k1 => assumption); (case k2 => assumption); (case k3 => assumption))))
local macro_rules | `(tactic| walk_at "exec For Name Name cons nil") => `(tactic| (k_here; (rename Fr _ _ _ _ => lF'); (with_unfolding_all refine' For_invVF lF' ?k1 ?k2 ?_; (case k1 => exact rfl); (case k2 => exact rfl); k_whole)))
local macro_rules | `(tactic| walk_at "subscriptTail") => `(tactic| (k_here; (with_reducible show wpAny _ _ (subscriptTail _ _ (Value.ref _) (Value.int _ _)) _ _ _); k_dflt (refine' item_day ?kT ?k0 ?k1 ?_ ?k2 ?k3; (case kT => k_tabat); (case k0 => omega); (case k1 => omega); (case k2 => with_unfolding_all rfl); (case k3 => intro _; with_unfolding_all rfl)); k_whole; intro t9; (try dsimp only); (try k_fold)))

set_option maxHeartbeats 8000000 in
theorem ways_says (w : World) (mean mg mb) (z : Str) (m : Int) (t1 t2 : Tok) (D : Addr) (o : Obj) (kvs : List (Int × Value)) (hm : 3 ≤ m ∧ m ≤ 6) (hz : z.cps.size ≤ 12) (ho : o.IsDictOf (PySem.intKind prog w) kvs) (hf : FlatPairs PyData.int kvs (kdfD (laid (modM m) (rangeKs (1 - m) (3 * m - 2).toNat)))) (rest : List (Addr × Obj)) (lo : (D == sysModules) = false) :
    ∀ (dp un : Nat) (gd : Option (List Code)) (cn : Str) (cs : Scope) (a : Addr) (ccd : Value) (cl : List (Str × Addr)) (outer : List Env) (A₀ : Around) (base h₀ : Heap) (L : Addr) (mm : Str → Option Value) (s : Shared) (Q E : Value → Shared → Prop),
    Below A₀ base outer h₀ → Fr h₀ L s.heap mm → (KK w).In h₀ → News h₀ L s.heap ((D, o) :: rest) → Top hd.view_39 loose0 mean mg mb h₀ → cs.kind = .function → dp + 12 < recursionLimit → un + 8 * 12 < cLine →
    (∀ t h' tk', Fr h₀ L h' mm → News h₀ L h' ((D, o) :: rest) → Q (.int (waysS m (codes z)) t) { s with heap := h', toks := tk' }) →
    wpAny (model prog w) (ktrTop dp un gd cn cs L a ccd cl outer) (call (.ref 105) [.str z t1, .int m t2, .ref D]) Q E s := by
  unfold KK prog
  k_fill
  intro dp un gd cn cs a ccd cl outer A₀ base h₀ L mm s Q E B F X N T hk hd hu hret
  refine wpAny_call ?_
  k_dflt cell_enter
  k_steps
  · unfold Held
    intro W tf mid t9 u9 h9 tk9 own hmid0 hmid1 F9 N9
    (try dsimp only [List.cons_append] at N9 ⊢)
    k_steps
    · unfold Held
      intro W1 tf1 right t8 u8 h8 tk8 own8 hr0 hr1 F8 N8
      (try dsimp only [List.cons_append] at N8 ⊢)
      k_steps
      · unfold Held
        intro a1 b1 c1 tf2 sg t7 u7 h7 tk7 own7 ha0 ha1 hb0 hb1 hc0 hc1 F7 N7
        (try dsimp only [List.cons_append] at N7 ⊢)
        k_steps
        all_goals (first
          | (rename ((_ == Str.ofString "\r") = true) => q9; rw [step_cr q9])
          | (rename ((_ == Str.ofString "\n") = true) => q9; rw [step_lf q9])
          | (rename ((_ == Str.ofString "\n") = false) => q9; rename ((_ == Str.ofString "\r") = false) => q8; rw [step_no q8 q9]))
        all_goals (
          refine it_endS (by k_asm) (by k_dflt (first | assumption | exact news_drop (by assumption) | exact news_drop (news_drop (by assumption)) | exact news_drop (news_drop (news_drop (by assumption))))) ⟨_, by with_unfolding_all rfl⟩ ⟨_, by with_unfolding_all rfl⟩ ⟨_, by with_unfolding_all rfl⟩ ?_
          intro y h1 n1 n2 n3
          simp only [n1, n2, n3, h1, if_false])
      · unfold Held
        intro tf2 u7 h7 tk7 F7 N7
        (try dsimp only [List.cons_append] at N7 ⊢)
        k_steps
        all_goals (first
          | (rename (((_ == (0 : Int)) && _) = true) => q9; rw [row_yes q9])
          | (rename (((_ == (0 : Int)) && _) = false) => q9; rw [row_no q9]))
        all_goals (
          refine it_endW (by k_asm) (by k_dflt (first | assumption | exact news_drop (by assumption) | exact news_drop (news_drop (by assumption)) | exact news_drop (news_drop (news_drop (by assumption))))) ⟨_, by with_unfolding_all rfl⟩ ?_
          intro y h1 n1 h3
          have n2 : y ≠ Str.ofString "a" := off_stored h3 (by decide)
          have n3 : y ≠ Str.ofString "b" := off_stored h3 (by decide)
          have n4 : y ≠ Str.ofString "c" := off_stored h3 (by decide)
          have n5 : y ≠ Str.ofString "sign" := off_stored h3 (by decide)
          simp only [n1, n2, n3, n4, n5, h1, h3, if_false, Bool.false_eq_true])
    · unfold Held
      intro tf1 u8 h8 tk8 F8 N8
      (try dsimp only [List.cons_append] at N8 ⊢)
      k_steps
      all_goals (
          refine it_endW (by k_asm) (by k_dflt (first | assumption | exact news_drop (by assumption) | exact news_drop (news_drop (by assumption)) | exact news_drop (news_drop (news_drop (by assumption))))) ⟨_, by with_unfolding_all rfl⟩ ?_
          intro y h1 n1 h3
          have n2 : y ≠ Str.ofString "a" := off_stored h3 (by decide)
          have n3 : y ≠ Str.ofString "b" := off_stored h3 (by decide)
          have n4 : y ≠ Str.ofString "c" := off_stored h3 (by decide)
          have n5 : y ≠ Str.ofString "sign" := off_stored h3 (by decide)
          have n6 : y ≠ Str.ofString "right" := off_stored h3 (by decide)
          have h4 : rightStored.contains y = false := by simp [rightStored, n2, n3, n4, n5]
          simp only [n1, n2, n3, n4, n5, n6, h1, h3, h4, if_false, Bool.false_eq_true])
  · unfold Held
    intro tf u9 h9 tk9 F9 N9
    (try dsimp only [List.cons_append] at N9 ⊢)
    k_steps
    all_goals (refine hret _ _ _ ?_ ?_ <;> k_asm)

end
end Mine

namespace Mine
section
open PySem PySem.W PyProof.Rows PySem.Calls PySem.Spec PyProof.V PySem.W.KStt
set_option maxRecDepth 100000

/-- the greatest measure, by as many turns as the second number has units -/
def gcdN : Nat → Int → Int → Int
  | 0, a, _ => a
  | n + 1, a, b => if b = 0 then a else gcdN n b (a.fmod b)
def gcdI (a b : Int) : Int := gcdN b.natAbs a b
theorem fmod_small (a b : Int) (h : b ≠ 0) : (a.fmod b).natAbs < b.natAbs := by
  rcases Int.lt_or_gt_of_ne h with h | h
  · have e : a.fmod b = -((-a).fmod (-b)) := by
      have := Int.neg_fmod_neg (a := a) (b := b)
      omega
    have h0 := Int.fmod_nonneg_of_pos (-a) (show 0 < -b by omega)
    have h1 := Int.fmod_lt_of_pos (-a) (show 0 < -b by omega)
    omega
  · have h0 := Int.fmod_nonneg_of_pos a h
    have h1 := Int.fmod_lt_of_pos a h
    omega
theorem gcdN_enough : ∀ (n m : Nat) (a b : Int), b.natAbs ≤ n → b.natAbs ≤ m → gcdN n a b = gcdN m a b
  | 0, 0, _, _, _, _ => rfl
  | 0, m + 1, a, b, h, _ => by
    have : b = 0 := by omega
    simp [gcdN, this]
  | n + 1, 0, a, b, _, h => by
    have : b = 0 := by omega
    simp [gcdN, this]
  | n + 1, m + 1, a, b, h1, h2 => by
    unfold gcdN
    by_cases hb : b = 0
    · simp [hb]
    · rw [if_neg hb, if_neg hb]
      have := fmod_small a b hb
      exact gcdN_enough n m _ _ (by omega) (by omega)
theorem gcdI_zero (a : Int) : gcdI a 0 = a := rfl
theorem gcdI_step {a b : Int} (h : b ≠ 0) : gcdI a b = gcdI b (a.fmod b) := by
  unfold gcdI
  have h1 : ∃ n, b.natAbs = n + 1 := ⟨b.natAbs - 1, by omega⟩
  obtain ⟨n, hn⟩ := h1
  rw [hn]
  show (if b = 0 then a else gcdN n b (a.fmod b)) = _
  rw [if_neg h]
  have := fmod_small a b h
  exact gcdN_enough _ _ _ _ (by omega) (Nat.le_refl _)

/-- what a turn of the measure's loop has done -/
def GEnd (h₀ : Heap) (L : Addr) (m₀ : Str → Option Value) (led : List (Addr × Obj)) (a b : Int) (s₁ s₂ : Shared) : Prop :=
  ∃ h' tk' m', s₂ = { s₁ with heap := h', toks := tk' } ∧ Fr h₀ L h' m' ∧ News h₀ L h' led ∧ (∃ t, m' (Str.ofString "a") = some (.int b t)) ∧ (∃ t, m' (Str.ofString "b") = some (.int (a.fmod b) t)) ∧ (∀ z, z ≠ Str.ofString "a" → z ≠ Str.ofString "b" → m' z = m₀ z) ∧ b ≠ 0
def GPost (h₀ : Heap) (L : Addr) (m₀ : Str → Option Value) (led : List (Addr × Obj)) (a b : Int) (s₁ : Shared) (Q : Flow → Shared → Prop) (f : Flow) (s₂ : Shared) : Prop :=
  match f with
  | .ret v => Q (.ret v) s₂
  | .brk => Q .next s₂
  | _ => GEnd h₀ L m₀ led a b s₁ s₂
theorem g_end {h₀ : Heap} {L : Addr} {m₀ m' : Str → Option Value} {led : List (Addr × Obj)} {a b : Int} {s : Shared} {Q : Flow → Shared → Prop} {h' : Heap} {tk' : Nat}
    (F : Fr h₀ L h' m') (N : News h₀ L h' led) (ha : ∃ t, m' (Str.ofString "a") = some (.int b t)) (hb : ∃ t, m' (Str.ofString "b") = some (.int (a.fmod b) t)) (e : ∀ z, z ≠ Str.ofString "a" → z ≠ Str.ofString "b" → m' z = m₀ z) (h : b ≠ 0) :
    GPost h₀ L m₀ led a b s Q .next { s with heap := h', toks := tk' } := ⟨h', tk', m', rfl, F, N, ha, hb, e, h⟩
def psG (c : (Int × Tok) × (Int × Tok)) : List (Str × Value) := [(Str.ofString "a", .int c.1.1 c.1.2), (Str.ofString "b", .int c.2.1 c.2.2)]
theorem gcd_while {prog : Program} {w : World} {A : Around} {E : Value → Shared → Prop} {Q : Flow → Shared → Prop} {s : Shared} {env : Env} {h₀ : Heap} {L : Addr} {test : PySem.Expr} {body : List Stmt} {pos : Pos} {m₀ : Str → Option Value} {led : List (Addr × Obj)} {a b : Int} {ta tb : Tok}
    (F : Fr h₀ L s.heap m₀) (N : News h₀ L s.heap led) (ha : m₀ (Str.ofString "a") = some (.int a ta)) (hb : m₀ (Str.ofString "b") = some (.int b tb))
    (turn : ∀ (x y : Int) (tx ty : Tok) h tk, gcdI x y = gcdI a b → Fr h₀ L h (fun z => if z = Str.ofString "a" then some (.int x tx) else if z = Str.ofString "b" then some (.int y ty) else m₀ z) → News h₀ L h led →
      wpAny (model prog w) A (isTrue test env (eval test env)) (fun bb s₂ => if bb = true then wpAny (model prog w) A (execs body env) (GPost h₀ L m₀ led x y { s with heap := h, toks := tk } Q) E s₂ else Q .next s₂) E { s with heap := h, toks := tk })
    (hE : PassesOwn (model prog w) A env E := by passes_own) :
    wpAny (model prog w) A (exec (.While test body [] pos) env) Q E s := by
  refine ksw_while (σ := (Int × Tok) × (Int × Tok)) (fun _ => led) psG (fun _ => True) [] (fun c => gcdI c.1.1 c.2.1 = gcdI a b) (fun c => c.2.1.natAbs) ((a, ta), (b, tb)) F N trivial ?_ rfl ?_ hE
  · intro p hp
    cases hp with
    | head => exact ha
    | tail _ hp => cases hp with
      | head => exact hb
      | tail _ hp => exact nomatch hp
  · rintro ⟨⟨x, tx⟩, ⟨y, ty⟩⟩ u h tk _ hp F₁ N₁
    refine wpAny_mono (turn x y tx ty h tk hp F₁ N₁) (fun bb s₂ hb => ?_) fun _ _ e => e
    cases bb with
    | false => exact hb
    | true =>
      refine wpAny_mono hb (fun f s₃ hf => ?_) fun _ _ e => e
      have up : GEnd h₀ L m₀ led x y { s with heap := h, toks := tk } s₃ → KswEnd h₀ L s (fun _ => led) psG (fun _ => True) [] m₀ (fun c => gcdI c.1.1 c.2.1 = gcdI a b) (fun c => c.2.1.natAbs) ((x, tx), (y, ty)) s₃ := by
        rintro ⟨h', tk', m', e, F', N', ⟨t1, i1⟩, ⟨t2, i2⟩, i3, i4⟩
        refine ⟨((y, t1), (x.fmod y, t2)), h', tk', m', led, by rw [e], F', N', fun p hp => hp, trivial, ?_, ?_, ?_, fmod_small x y i4⟩
        · intro p hp
          cases hp with
          | head => exact i1
          | tail _ hp => cases hp with
            | head => exact i2
            | tail _ hp => exact nomatch hp
        · intro z hz _
          exact i3 z (hz _ (.head _)) (hz _ (.tail _ (.head _)))
        · show gcdI y (x.fmod y) = gcdI a b
          rw [← gcdI_step i4]
          exact hp
      cases f with
      | ret v => exact hf
      | brk => exact hf
      | next => exact up hf
      | cont => exact up hf

end
end Mine

namespace Mine
section
open PySem PySem.W PyProof.Rows PySem.Calls PySem.Spec PyProof.V PySem.W.KStt
set_option maxRecDepth 100000
local macro_rules | `(tactic| walk_at "mine dummy G1 0") => `(tactic| skip)
local macro_rules | `(tactic| walk_at "mine dummy G1 1") => `(tactic| skip)
local macro_rules | `(tactic| walk_at "mine dummy G1 2") => `(tactic| skip)
local macro_rules | `(tactic| walk_at "mine dummy G1 3") => `(tactic| skip)
local macro_rules | `(tactic| walk_at "mine dummy G1 4") => `(tactic| skip)
local macro_rules | `(tactic| walk_at "exec While Name cons nil") => `(tactic| (k_here; k_dflt (refine' gcd_while ?kF ?kN ?ka ?kb (held ?_); (case kF => assumption); (case kN => assumption); (case ka => with_unfolding_all rfl); (case kb => with_unfolding_all rfl))))

set_option maxHeartbeats 8000000 in
theorem gcd_says (w : World) (mean mg mb) (a b : Int) (t1 t2 : Tok) : Says 1 w mean mg mb 84 [.int a t1, .int b t2] (fun _ => True) (fun v nx => nx = [] ∧ ∃ t, v = .int (gcdI a b) t) := by
  unfold Says KK prog
  k_fill
  intro dp un gd cn cs a' ccd cl outer A₀ base h₀ L m news s Q E B F X N T hk hd hu hp hret
  refine wpAny_call ?_
  k_dflt cell_enter
  k_steps
  unfold Held
  intro x y tx ty h tk hg F9 N9
  (try dsimp only)
  k_steps
  · refine g_end (by k_asm) (by k_dflt (exact news_drop (by assumption))) ⟨_, by with_unfolding_all rfl⟩ ⟨_, by with_unfolding_all rfl⟩ ?_ (by assumption)
    intro z h1 h2
    simp only [h1, h2, if_false]
  · rename (y = 0) => hy
    subst hy
    rw [gcdI_zero] at hg
    refine' says_ret0 (Q := Q) (s := s) hret ?k1 ?k2 ?k3 ?k4
    case k1 => k_asm
    case k2 => assumption
    case k3 => exact fun p hp => hp
    case k4 => exact ⟨rfl, _, by rw [hg]⟩

theorem gcd_use {w : World} {mean : ExcName → Option Value} {mg mb : Str → Option Value} {x y : Int} {t1 t2 : Tok}
    {dp un : Nat} {gd : Option (List Code)} {cn : Str} {cs : Scope} {a : Addr} {ccd : Value} {cl : List (Str × Addr)} {outer : List Env} {A₀ : Around} {base h₀ : Heap} {L : Addr} {mm : Str → Option Value} {news : List (Addr × Obj)} {s : Shared} {Q E : Value → Shared → Prop}
    (B : Below A₀ base outer h₀) (F : Fr h₀ L s.heap mm) (X : (KK w).In h₀) (N : News h₀ L s.heap news) (T : Top hd.view_39 loose0 mean mg mb h₀) (hk : cs.kind = .function) (hd : dp + 1 < recursionLimit) (hu : un + 8 * 1 < cLine)
    (ret : ∀ t h' tk', Fr h₀ L h' mm → News h₀ L h' news → Q (.int (gcdI x y) t) { s with heap := h', toks := tk' }) :
    wpAny (model prog w) (ktrTop dp un gd cn cs L a ccd cl outer) (call (.ref 84) [.int x t1, .int y t2]) Q E s :=
  says_use (gcd_says w mean mg mb x y t1 t2) B F X N T hk hd hu trivial (fun v nx h' tk' r _ F' N' => by
    obtain ⟨e, t, e'⟩ := r
    subst e; subst e'
    exact ret t h' tk' F' N')

end
end Mine

namespace Mine
section
open PySem PySem.W PyProof.Rows PySem.Calls PySem.Spec PySem.Builtin.Re
set_option maxRecDepth 100000
/-- the words of the pattern at address 36 -/
def eolCode : Array Nat := #[14, 9, 4, 1, 2, 16, 10, 16, 13, 0, 7, 7, 16, 13, 16, 10, 15, 18, 5, 16, 10, 15, 13, 11, 16, 13, 5, 5, 0, 16, 10, 1, 15, 2, 0, 1]
theorem pat_eol {w : World} {h : Heap} (X : (KK w).In h) : ∃ fs its, PatAt h 36 35 fs its eolCode 0 :=
  ⟨_, _, X 36 _ rfl, rfl, rfl, rfl, ⟨_, _, X 35 _ rfl, rfl⟩, by kernel_rfl⟩
/-- the machine that stands at a sign, its first attempt ahead -/
def m0 (z : Array Nat) (L p pos pc : Nat) (fr : List Sre.Frame) (wt : Nat) (S : Sre.Seen) (ans : Option Bool) (hd : Nat) (om : Bool) : Sre.M :=
  { code := eolCode, text := z, lim := L, start := p, lastStart := L, wholeText := false, mustAdvance := false, pc := pc, pos := pos, handed := hd, outermost := om, marks := #[], lastmark := -1, lastindex := -1, loops := #[], inner := none, frames := fr, weight := wt, answer := ans, seen := S, outcome := none }
abbrev fS (p : Nat) : Sre.Frame := { wait := .nextStart, pc := 10, pos := p, outermost := true }
abbrev fB (pc p : Nat) : Sre.Frame := { wait := .nextBranch, pc := pc, pos := p, outermost := true, kept := { lastmark := -1, lastindex := -1, whole := false, marks := #[] } }
abbrev fL (p : Nat) : Sre.Frame := { wait := .lookNot, pc := 26, pos := p, outermost := true, kept := { lastmark := -1, lastindex := -1, whole := false, marks := #[] } }
section
variable {z : Array Nat} {L p pos hd wt : Nat} {fr : List Sre.Frame} {S : Sre.Seen} {om : Bool}
theorem st_branch (hw : wt ≤ 10) : (m0 z L p p 10 fr wt S none hd true).step = m0 z L p p 12 (fB 11 p :: fr) (wt + 1) (S.add 7) none p true := by
  show (if ((m0 z L p p 10 fr wt S none hd true).weight + 1 + 0 > 16777216) then _ else _) = _
  rw [if_neg (by show ¬ (wt + 1 + 0 > 16777216); omega)]
  rfl
theorem st_lit12 (hL : pos < L) (hz : z.getD pos 0 = 13) : (m0 z L p pos 12 fr wt S none hd om).step = m0 z L p (pos + 1) 14 fr wt (S.add 16) none hd om := by
  show (if (pos ≥ L) then _ else _) = _
  rw [if_neg (by omega)]
  show (match (Except.ok (z.getD pos 0 == 13, S.add 16) : Except String (Bool × Sre.Seen)) with | .error why => _ | .ok (false, seen) => _ | .ok (true, seen) => _) = _
  rw [hz]
  rfl
theorem st_lit12n (hz : ¬ (pos < L ∧ z.getD pos 0 = 13)) : (m0 z L p pos 12 fr wt S none hd om).step = m0 z L p pos 12 fr wt (S.add 16) (some false) hd om := by
  show (if (pos ≥ L) then _ else _) = _
  by_cases hL : pos ≥ L
  · rw [if_pos hL]; rfl
  · rw [if_neg hL]
    have e : (z.getD pos 0 == 13) = false := by
      rw [beq_eq_false_iff_ne]
      exact fun q => hz ⟨by omega, q⟩
    show (match (Except.ok (z.getD pos 0 == 13, S.add 16) : Except String (Bool × Sre.Seen)) with | .error why => _ | .ok (false, seen) => _ | .ok (true, seen) => _) = _
    rw [e]
    rfl
theorem st_lit14 (hL : pos < L) (hz : z.getD pos 0 = 10) : (m0 z L p pos 14 fr wt S none hd om).step = m0 z L p (pos + 1) 16 fr wt (S.add 16) none hd om := by
  show (if (pos ≥ L) then _ else _) = _
  rw [if_neg (by omega)]
  show (match (Except.ok (z.getD pos 0 == 10, S.add 16) : Except String (Bool × Sre.Seen)) with | .error why => _ | .ok (false, seen) => _ | .ok (true, seen) => _) = _
  rw [hz]
  rfl
theorem st_lit14n (hz : ¬ (pos < L ∧ z.getD pos 0 = 10)) : (m0 z L p pos 14 fr wt S none hd om).step = m0 z L p pos 14 fr wt (S.add 16) (some false) hd om := by
  show (if (pos ≥ L) then _ else _) = _
  by_cases hL : pos ≥ L
  · rw [if_pos hL]; rfl
  · rw [if_neg hL]
    have e : (z.getD pos 0 == 10) = false := by
      rw [beq_eq_false_iff_ne]
      exact fun q => hz ⟨by omega, q⟩
    show (match (Except.ok (z.getD pos 0 == 10, S.add 16) : Except String (Bool × Sre.Seen)) with | .error why => _ | .ok (false, seen) => _ | .ok (true, seen) => _) = _
    rw [e]
    rfl
theorem st_lit19 (hL : pos < L) (hz : z.getD pos 0 = 10) : (m0 z L p pos 19 fr wt S none hd om).step = m0 z L p (pos + 1) 21 fr wt (S.add 16) none hd om := by
  show (if (pos ≥ L) then _ else _) = _
  rw [if_neg (by omega)]
  show (match (Except.ok (z.getD pos 0 == 10, S.add 16) : Except String (Bool × Sre.Seen)) with | .error why => _ | .ok (false, seen) => _ | .ok (true, seen) => _) = _
  rw [hz]
  rfl
theorem st_lit19n (hz : ¬ (pos < L ∧ z.getD pos 0 = 10)) : (m0 z L p pos 19 fr wt S none hd om).step = m0 z L p pos 19 fr wt (S.add 16) (some false) hd om := by
  show (if (pos ≥ L) then _ else _) = _
  by_cases hL : pos ≥ L
  · rw [if_pos hL]; rfl
  · rw [if_neg hL]
    have e : (z.getD pos 0 == 10) = false := by
      rw [beq_eq_false_iff_ne]
      exact fun q => hz ⟨by omega, q⟩
    show (match (Except.ok (z.getD pos 0 == 10, S.add 16) : Except String (Bool × Sre.Seen)) with | .error why => _ | .ok (false, seen) => _ | .ok (true, seen) => _) = _
    rw [e]
    rfl
theorem st_lit24 (hL : pos < L) (hz : z.getD pos 0 = 13) : (m0 z L p pos 24 fr wt S none hd om).step = m0 z L p (pos + 1) 26 fr wt (S.add 16) none hd om := by
  show (if (pos ≥ L) then _ else _) = _
  rw [if_neg (by omega)]
  show (match (Except.ok (z.getD pos 0 == 13, S.add 16) : Except String (Bool × Sre.Seen)) with | .error why => _ | .ok (false, seen) => _ | .ok (true, seen) => _) = _
  rw [hz]
  rfl
theorem st_lit24n (hz : ¬ (pos < L ∧ z.getD pos 0 = 13)) : (m0 z L p pos 24 fr wt S none hd om).step = m0 z L p pos 24 fr wt (S.add 16) (some false) hd om := by
  show (if (pos ≥ L) then _ else _) = _
  by_cases hL : pos ≥ L
  · rw [if_pos hL]; rfl
  · rw [if_neg hL]
    have e : (z.getD pos 0 == 13) = false := by
      rw [beq_eq_false_iff_ne]
      exact fun q => hz ⟨by omega, q⟩
    show (match (Except.ok (z.getD pos 0 == 13, S.add 16) : Except String (Bool × Sre.Seen)) with | .error why => _ | .ok (false, seen) => _ | .ok (true, seen) => _) = _
    rw [e]
    rfl
theorem st_lit29 (hL : pos < L) (hz : z.getD pos 0 = 10) : (m0 z L p pos 29 fr wt S none hd om).step = m0 z L p (pos + 1) 31 fr wt (S.add 16) none hd om := by
  show (if (pos ≥ L) then _ else _) = _
  rw [if_neg (by omega)]
  show (match (Except.ok (z.getD pos 0 == 10, S.add 16) : Except String (Bool × Sre.Seen)) with | .error why => _ | .ok (false, seen) => _ | .ok (true, seen) => _) = _
  rw [hz]
  rfl
theorem st_lit29n (hz : ¬ (pos < L ∧ z.getD pos 0 = 10)) : (m0 z L p pos 29 fr wt S none hd om).step = m0 z L p pos 29 fr wt (S.add 16) (some false) hd om := by
  show (if (pos ≥ L) then _ else _) = _
  by_cases hL : pos ≥ L
  · rw [if_pos hL]; rfl
  · rw [if_neg hL]
    have e : (z.getD pos 0 == 10) = false := by
      rw [beq_eq_false_iff_ne]
      exact fun q => hz ⟨by omega, q⟩
    show (match (Except.ok (z.getD pos 0 == 10, S.add 16) : Except String (Bool × Sre.Seen)) with | .error why => _ | .ok (false, seen) => _ | .ok (true, seen) => _) = _
    rw [e]
    rfl
theorem st_jump16 : (m0 z L p pos 16 fr wt S none hd om).step = m0 z L p pos 35 fr wt (S.add 15) none hd om := rfl
theorem st_jump21 : (m0 z L p pos 21 fr wt S none hd om).step = m0 z L p pos 35 fr wt (S.add 15) none hd om := rfl
theorem st_jump32 : (m0 z L p pos 32 fr wt S none hd om).step = m0 z L p pos 35 fr wt (S.add 15) none hd om := rfl
theorem st_succ : (m0 z L p pos 35 fr wt S none hd true).step = m0 z L p pos 35 fr wt (S.add 1) (some true) pos true := rfl
theorem st_look (hw : wt ≤ 10) : (m0 z L p pos 26 fr wt S none hd true).step = m0 z L p pos 29 (fL pos :: fr) (wt + 1) (S.add 5) none pos false := by
  show (if ((m0 z L p pos 26 fr wt S none hd true).weight + 1 + 0 > 16777216) then _ else _) = _
  rw [if_neg (by show ¬ (wt + 1 + 0 > 16777216); omega)]
  rfl
theorem st_yesB {pc q : Nat} : (m0 z L p pos 35 (fB pc q :: fr) (wt + 1) S (some true) hd true).step = m0 z L p q pc fr wt S (some true) hd true := rfl
theorem st_yesS {pc : Nat} : (m0 z L p pos pc (fS p :: fr) (wt + 1) S (some true) hd true).step = m0 z L p p 10 fr wt S (some true) hd true := rfl
theorem st_no11 {pc q : Nat} (hw : wt ≤ 10) : (m0 z L p pos pc (fB 11 q :: fr) (wt + 1) S (some false) hd om).step = m0 z L p q 19 (fB 18 q :: fr) (wt + 1) S none q true := by
  show (if (wt + 1 + 0 > 16777216) then _ else _) = _
  rw [if_neg (by omega)]
  rfl
theorem st_no18 {pc q : Nat} (hw : wt ≤ 10) : (m0 z L p pos pc (fB 18 q :: fr) (wt + 1) S (some false) hd om).step = m0 z L p q 24 (fB 23 q :: fr) (wt + 1) S none q true := by
  show (if (wt + 1 + 0 > 16777216) then _ else _) = _
  rw [if_neg (by omega)]
  rfl
theorem st_noL {pc q : Nat} : (m0 z L p pos pc (fL q :: fr) (wt + 1) S (some false) hd om).step = m0 z L p q 32 fr wt S none hd true := rfl
end
def stepsN : Nat → Sre.M → Sre.M
  | 0, m => m
  | n + 1, m => stepsN n m.step
theorem stepsN_add : ∀ (a b : Nat) (m : Sre.M), stepsN (a + b) m = stepsN b (stepsN a m)
  | 0, b, m => by rw [Nat.zero_add]; rfl
  | a + 1, b, m => by
    rw [show a + 1 + b = (a + b) + 1 by omega]
    exact stepsN_add a b m.step
theorem step_done {m : Sre.M} (h : m.outcome.isSome = true) : m.step = m := by
  unfold Sre.M.step
  rw [if_pos h]
theorem stepsN_done {m : Sre.M} (h : m.outcome.isSome = true) : ∀ n, stepsN n m = m
  | 0 => rfl
  | n + 1 => by
    show stepsN n m.step = m
    rw [step_done h]
    exact stepsN_done h n
theorem runFor_steps : ∀ (n : Nat) (m : Sre.M), m.runFor n = stepsN n m
  | 0, _ => rfl
  | n + 1, m => by
    by_cases h : m.outcome.isSome = true
    · rw [stepsN_done h, runFor_done h]
    · show (if m.outcome.isSome = true then m else m.step.runFor n) = stepsN n m.step
      rw [if_neg h, runFor_steps n]
theorem drive_steps : ∀ (n k : Nat) (m : Sre.M), (stepsN k m).outcome.isSome = true → k ≤ 4 * n → drive n m = stepsN k m
  | 0, k, m, _, hk => by
    have : k = 0 := by omega
    subst this
    rfl
  | n + 1, k, m, h, hk => by
    show (if (m.runFor 4).outcome.isSome = true then m.runFor 4 else drive n (m.runFor 4)) = _
    rw [runFor_steps]
    by_cases h4 : (stepsN 4 m).outcome.isSome = true
    · rw [if_pos h4]
      by_cases hk4 : k ≤ 4
      · have e := stepsN_add k (4 - k) m
        rw [show k + (4 - k) = 4 by omega, stepsN_done h] at e
        exact e
      · have e := stepsN_add 4 (k - 4) m
        rw [show 4 + (k - 4) = k by omega, stepsN_done h4] at e
        exact e.symm
    · rw [if_neg h4]
      have hk4 : 4 ≤ k := by
        refine Nat.le_of_not_lt fun hlt => h4 ?_
        have e := stepsN_add k (4 - k) m
        rw [show k + (4 - k) = 4 by omega, stepsN_done h] at e
        rw [e]; exact h
      have e := stepsN_add 4 (k - 4) m
      rw [show 4 + (k - 4) = k by omega] at e
      rw [e] at h ⊢
      exact drive_steps n (k - 4) _ h (by omega)

section
variable {z : Array Nat} {L p hd : Nat} {S : Sre.Seen}
/-- what a run from a sign leaves -/
def Ends (k : Nat) (m : Sre.M) (p e : Nat) : Prop := (stepsN k m).outcome = some .matched ∧ (stepsN k m).start = p ∧ (stepsN k m).handed = e
theorem ends_step {k : Nat} {m m' : Sre.M} {p e : Nat} (h : m.step = m') (H : Ends k m' p e) : Ends (k + 1) m p e := by
  subst h
  exact H
theorem ends_last {wt : Nat} : Ends 1 (m0 z L p p 10 [] wt S (some true) hd true) p hd := ⟨rfl, rfl, rfl⟩
theorem run_both (h0 : p + 1 < L) (h1 : z.getD p 0 = 13) (h2 : z.getD (p + 1) 0 = 10) : Ends 8 (m0 z L p p 10 [fS p] 1 S none hd true) p (p + 2) := by
  refine ends_step (st_branch (by decide)) ?_
  refine ends_step (st_lit12 (by omega) h1) ?_
  refine ends_step (st_lit14 (by omega) h2) ?_
  refine ends_step st_jump16 ?_
  refine ends_step st_succ ?_
  refine ends_step st_yesB ?_
  refine ends_step st_yesS ?_
  exact ends_last
theorem run_feed (h0 : p < L) (h1 : z.getD p 0 = 10) : Ends 9 (m0 z L p p 10 [fS p] 1 S none hd true) p (p + 1) := by
  refine ends_step (st_branch (by decide)) ?_
  refine ends_step (st_lit12n (by rw [h1]; omega)) ?_
  refine ends_step (st_no11 (by decide)) ?_
  refine ends_step (st_lit19 (by omega) h1) ?_
  refine ends_step st_jump21 ?_
  refine ends_step st_succ ?_
  refine ends_step st_yesB ?_
  refine ends_step st_yesS ?_
  exact ends_last
theorem run_ret (h0 : p < L) (h1 : z.getD p 0 = 13) (h2 : ¬ (p + 1 < L ∧ z.getD (p + 1) 0 = 10)) : Ends 15 (m0 z L p p 10 [fS p] 1 S none hd true) p (p + 1) := by
  refine ends_step (st_branch (by decide)) ?_
  refine ends_step (st_lit12 (by omega) h1) ?_
  refine ends_step (st_lit14n h2) ?_
  refine ends_step (st_no11 (by decide)) ?_
  refine ends_step (st_lit19n (by rw [h1]; omega)) ?_
  refine ends_step (st_no18 (by decide)) ?_
  refine ends_step (st_lit24 (by omega) h1) ?_
  refine ends_step (st_look (by decide)) ?_
  refine ends_step (st_lit29n h2) ?_
  refine ends_step st_noL ?_
  refine ends_step st_jump32 ?_
  refine ends_step st_succ ?_
  refine ends_step st_yesB ?_
  refine ends_step st_yesS ?_
  exact ends_last
end

end
end Mine

namespace Mine
section
open PySem PySem.W PyProof.Rows PySem.Calls PySem.Spec PySem.Builtin.Re
set_option maxRecDepth 100000

/-- the next return or feed of a text -/
def firstP (z : Array Nat) : Nat → Nat → Option Nat
  | 0, _ => none
  | n + 1, s => if z.size ≤ s then none else if (z.getD s 0 == 10 || z.getD s 0 == 13) = true then some s else firstP z n (s + 1)
/-- where the line's end that begins there is over -/
def overP (z : Array Nat) (p : Nat) : Nat := if z.getD p 0 = 13 ∧ p + 1 < z.size ∧ z.getD (p + 1) 0 = 10 then p + 2 else p + 1

theorem set_ok (c : Nat) (S : Sre.Seen) : ∃ S', Sre.inSet eolCode c eolCode.size 5 true S = .ok ((c == 10 || c == 13), S') := by
  show ∃ S', (if (c == 10) = true then (Except.ok (true, S.add 16) : Except String (Bool × Sre.Seen)) else if (c == 13) = true then .ok (true, (S.add 16).add 16) else .ok (false, ((S.add 16).add 16).add 0)) = _
  cases (c == 10) with
  | true => exact ⟨_, rfl⟩
  | false =>
    cases (c == 13) with
    | true => exact ⟨_, rfl⟩
    | false => exact ⟨_, rfl⟩
theorem admit_ok (m : Sre.M) (hc : m.code = eolCode) (hl : m.lim = m.text.size) : ∀ (n s : Nat) (S : Sre.Seen), ∃ S', Sre.M.admitted m n s S = .ok (firstP m.text n s, S')
  | 0, _, S => ⟨S, rfl⟩
  | n + 1, s, S => by
    by_cases h : s ≥ m.lim
    · refine ⟨S, ?_⟩
      unfold Sre.M.admitted firstP
      rw [if_pos h, if_pos (by omega)]
    · obtain ⟨S1, e1⟩ := set_ok (m.text.getD s 0) S
      unfold Sre.M.admitted firstP
      rw [if_neg h, if_neg (by omega), hc, e1]
      cases hb : (m.text.getD s 0 == 10 || m.text.getD s 0 == 13) with
      | true => exact ⟨S1, rfl⟩
      | false =>
        obtain ⟨S2, e2⟩ := admit_ok m hc hl n (s + 1) S1
        exact ⟨S2, e2⟩
theorem firstP_in (z : Array Nat) : ∀ (n s p : Nat), firstP z n s = some p → s ≤ p ∧ p < z.size ∧ (z.getD p 0 = 10 ∨ z.getD p 0 = 13)
  | 0, _, _, h => nomatch h
  | n + 1, s, p, h => by
    unfold firstP at h
    split at h
    · cases h
    · split at h
      · rename_i h1 h2
        cases h
        refine ⟨Nat.le_refl _, by omega, ?_⟩
        simpa [Bool.or_eq_true, beq_iff_eq] using h2
      · obtain ⟨a, b⟩ := firstP_in z n (s + 1) p h
        exact ⟨by omega, b⟩

theorem reRes_of {m : Sre.M} {k p e : Nat} (hk : k ≤ 20) (h : Ends k m p e) : ∃ m', reRes 5 m = some (some m') ∧ m'.start = p ∧ m'.handed = e := by
  have hd := drive_steps 5 k m (by rw [h.1]; rfl) (by omega)
  refine ⟨stepsN k m, ?_, h.2.1, h.2.2⟩
  unfold reRes
  rw [hd, h.1]
theorem reRes_no {m : Sre.M} (h : (stepsN 1 m).outcome = some .failed) : reRes 5 m = some none := by
  have hd := drive_steps 5 1 m (by rw [h]; rfl) (by omega)
  unfold reRes
  rw [hd, h]
theorem run_any {z : Array Nat} {p hd : Nat} {S : Sre.Seen} (h0 : p < z.size) (h1 : z.getD p 0 = 10 ∨ z.getD p 0 = 13) : ∃ k, k ≤ 20 ∧ Ends k (m0 z z.size p p 10 [fS p] 1 S none hd true) p (overP z p) := by
  unfold overP
  rcases h1 with h1 | h1
  · refine ⟨9, by decide, ?_⟩
    rw [if_neg (by omega)]
    exact run_feed h0 h1
  · by_cases h2 : p + 1 < z.size ∧ z.getD (p + 1) 0 = 10
    · refine ⟨8, by decide, ?_⟩
      rw [if_pos ⟨h1, h2⟩]
      exact run_both h2.1 h1 h2.2
    · refine ⟨15, by decide, ?_⟩
      rw [if_neg (fun q => h2 q.2)]
      exact run_ret h0 h1 h2
def baseM (z : Array Nat) (s : Nat) : Sre.M :=
  { code := eolCode, text := z, lim := z.size, start := s, lastStart := z.size, wholeText := false, mustAdvance := false, pc := 10, pos := s, handed := s, outermost := true, marks := #[], lastmark := -1, lastindex := -1, loops := #[], inner := none, frames := [], weight := 0, answer := none, seen := ({} : Sre.Seen).add 14, outcome := none }
theorem search_from (z : Array Nat) (s : Nat) (hs : s ≤ z.size) : match firstP z (z.size + 1 - s) s with
    | none => reRes 5 (Sre.forSearch eolCode z 0 s z.size false) = some none
    | some p => ∃ m', reRes 5 (Sre.forSearch eolCode z 0 s z.size false) = some (some m') ∧ m'.start = p ∧ m'.handed = overP z p := by
  by_cases he : s = z.size
  · have e0 : Sre.forSearch eolCode z 0 s z.size false = { baseM z s with lastStart := 0 }.say false := by
      show (if (decide (s > z.size) || decide (z.size - s < 1)) = true then _ else _) = _
      rw [if_pos (by simp; omega)]
      rfl
    have e1 : firstP z (z.size + 1 - s) s = none := by
      rw [show z.size + 1 - s = 0 + 1 by omega]
      unfold firstP
      rw [if_pos (by omega)]
    rw [e1, e0]
    exact reRes_no rfl
  · have e0 : Sre.forSearch eolCode z 0 s z.size false = (match Sre.M.admitted (baseM z s) (z.size + 1 - s) s (({} : Sre.Seen).add 14) with
        | .ok (some s', seen) => { baseM z s with mustAdvance := false, seen }.attemptAt s' true
        | .ok (none, seen) => { baseM z s with seen }.say false
        | .error why => (baseM z s).stick why) := by
      show (if (decide (s > z.size) || decide (z.size - s < 1)) = true then _ else _) = _
      rw [if_neg (by simp; omega)]
      rfl
    obtain ⟨S', ea⟩ := admit_ok (baseM z s) rfl rfl (z.size + 1 - s) s (({} : Sre.Seen).add 14)
    have ea' : Sre.M.admitted (baseM z s) (z.size + 1 - s) s (({} : Sre.Seen).add 14) = .ok (firstP z (z.size + 1 - s) s, S') := ea
    rw [ea'] at e0
    cases hf : firstP z (z.size + 1 - s) s with
    | none =>
      rw [hf] at e0
      rw [e0]
      exact reRes_no rfl
    | some p =>
      rw [hf] at e0
      obtain ⟨_, h2, h3⟩ := firstP_in z _ _ _ hf
      obtain ⟨k, hk, hE⟩ := run_any (z := z) (hd := p) (S := S') h2 h3
      have e2 : Sre.forSearch eolCode z 0 s z.size false = m0 z z.size p p 10 [fS p] 1 S' none p true := by
        rw [e0]
        rfl
      rw [e2]
      exact reRes_of hk hE

end
end Mine

namespace Mine
section
open PySem PySem.W PyProof.Rows PySem.Calls PySem.Spec PySem.Builtin.Re
set_option maxRecDepth 100000

def cutS (z : Array Nat) (a b : Nat) : Str := ⟨z.extract a b⟩
/-- the pieces of a text whose lines' ends are put anew -/
def piecesF (z : Array Nat) (r : Str) : Nat → Nat → List Str
  | 0, _ => []
  | n + 1, s => match firstP z (z.size + 1 - s) s with
    | some p => (if s < p then [cutS z s p] else []) ++ r :: piecesF z r n (overP z p)
    | none => if s < z.size then [cutS z s z.size] else []

/-- the list of pieces as it stands while the loop runs -/
structure SubAt (h₀ : Heap) (L : Addr) (mm : Str → Option Value) (news : List (Addr × Obj)) (l : Addr) (acc : List (Str × Tok)) (h : Heap) : Prop where
  F : Fr h₀ L h mm
  N : News h₀ L h news
  ne : l ≠ L
  fresh : h₀.get? l = none
  off : ∀ p ∈ news, p.1 ≠ l
  here : ∃ n, h.get? l = some { cls := .type "list", data := .seq (strValues acc).toArray n }

theorem SubAt.push {h₀ h : Heap} {L l : Addr} {mm : Str → Option Value} {news : List (Addr × Obj)} {acc : List (Str × Tok)} (S : SubAt h₀ L mm news l acc h) (y : Str) (t : Tok) :
    SubAt h₀ L mm news l (acc ++ [(y, t)]) (h.update l (Obj.mapSeq (·.push (.str y t)))) := by
  have hs : Heap.SameBut l h (h.update l (Obj.mapSeq (·.push (.str y t)))) := Heap.SameBut.update ..
  obtain ⟨n, hn⟩ := S.here
  refine ⟨?_, ?_, S.ne, S.fresh, S.off, ?_⟩
  · obtain ⟨oL, a1, a2, hL, a3⟩ := S.F.ns
    refine ⟨⟨oL, a1, a2, (hs.2 L S.ne.symm).trans hL, a3⟩, fun b o e => ?_, S.F.above⟩
    refine (hs.2 b fun q => ?_).trans (S.F.keep b o e)
    rw [q, S.fresh] at e
    cases e
  · intro p hp
    exact ⟨(hs.2 p.1 (S.off p hp)).trans (S.N p hp).1, (S.N p hp).2.1, (S.N p hp).2.2⟩
  · refine ⟨n + 1, ?_⟩
    have e := Heap.get?_update_self (Obj.mapSeq (·.push (.str y t))) hn rfl
    rw [e]
    show some (Obj.mk _ _ (Data.seq ((strValues acc).toArray.push (.str y t)) (if ((strValues acc).toArray.push (.str y t)).size == (strValues acc).toArray.size then n else n + 1)) _) = _
    have e1 : (strValues acc).toArray.push (.str y t) = (strValues (acc ++ [(y, t)])).toArray := by
      simp [strValues]
    have e2 : (((strValues acc).toArray.push (.str y t)).size == (strValues acc).toArray.size) = false := by
      rw [Array.size_push]
      simp
    rw [e2, e1]
    rfl

section
variable {prog : Program} {w : World} {A : Around} {E : Value → Shared → Prop} {s : Shared} {h₀ : Heap} {L l : Addr} {mm : Str → Option Value} {news : List (Addr × Obj)} {acc : List (Str × Tok)}
theorem push_ok {y : Str} {t : Tok} {Q : Unit → Shared → Prop} (S : SubAt h₀ L mm news l acc s.heap) (hz : acc.length ≤ 1000) (h : ∀ h', SubAt h₀ L mm news l (acc ++ [(y, t)]) h' → Q () { s with heap := h' }) :
    wpAny (model prog w) A (updateSeq l (·.push (.str y t))) Q E s := by
  obtain ⟨n, hn⟩ := S.here
  have hl : (strValues acc).toArray.size = acc.length := by simp [strValues]
  refine wpAny_updateSeq hn rfl (h _ (S.push y t)) ?_ ?_
  · rw [hl]; unfold sizeLine; omega
  · rw [Array.size_push, hl]; unfold sizeLine; omega

theorem whole_ok {P C : Addr} {fs its : Array Value} {code : Array Nat} {groups : Nat} {z : Str} {t : Tok} {Q : ReTarget → Shared → Prop} (hp : PatAt s.heap P C fs its code groups)
    (h : Q { pattern := .ref P, string := .str z t, code, text := z.cps, kind := 0, groups, pos := 0, lim := z.cps.size } s) :
    wpAny (model prog w) A (reWholeTarget (.ref P) (.str z t)) Q E s := by
  unfold reWholeTarget
  refine wpAny_bind (wpAny_fieldsOf hp.pat rfl ?_)
  refine wpAny_bind (wpAny_pure ?_)
  dsimp only
  rw [hp.f6, hp.f5, hp.f2]
  obtain ⟨o, n, ho, hd⟩ := hp.tup
  rw [if_neg (by decide), if_neg (by decide)]
  refine wpAny_bind (wpAny_pure ?_)
  refine wpAny_bind ?_
  unfold reRawItems
  refine wpAny_bind (wpAny_seqItems ho hd ?_)
  refine wpAny_pure ?_
  refine wpAny_pure ?_
  rw [Option.getD_some, hp.is]
  exact h

theorem over_gt (z : Array Nat) (p : Nat) : p < overP z p := by
  unfold overP
  by_cases h2 : z.getD p 0 = 13 ∧ p + 1 < z.size ∧ z.getD (p + 1) 0 = 10
  · rw [if_pos h2]; omega
  · rw [if_neg h2]; omega
theorem over_le {z : Array Nat} {p : Nat} (h : p < z.size) : overP z p ≤ z.size := by
  unfold overP
  by_cases h2 : z.getD p 0 = 13 ∧ p + 1 < z.size ∧ z.getD (p + 1) 0 = 10
  · rw [if_pos h2]; omega
  · rw [if_neg h2]; omega
theorem pat_eol' {w : World} {h : Heap} (X : (KK w).In h) : ∃ fs its, PatAt h 36 35 fs its eolCode 0 := pat_eol X
theorem cut_len (z : Array Nat) (a b : Nat) : (cutS z a b).length ≤ z.size := by
  show (z.extract a b).size ≤ _
  rw [Array.size_extract]
  omega
theorem sum_le (ys : List Str) (h : ∀ y ∈ ys, y.length ≤ 100) : (ys.map (·.length)).sum ≤ 100 * ys.length := by
  induction ys with
  | nil => exact Nat.le_refl _
  | cons y ys ih =>
    rw [List.map_cons, List.sum_cons, List.length_cons]
    have := h y (.head _)
    have := ih fun x hx => h x (.tail _ hx)
    omega
theorem subfinish {z : Str} {r : Str} {acc : List (Str × Tok)} {Q : Value → Shared → Prop} (S : SubAt h₀ L mm news l acc s.heap) (hl : acc.length ≤ 1000) (hy : ∀ y ∈ acc.map (·.1), y.length ≤ 100)
    (h : ∀ t' k, Q (.str (Txt.join Str.empty (acc.map (·.1))) t') { s with toks := k }) :
    wpAny (model prog w) A (reSlice z.cps 0 0 0 >>= fun joiner => seqItems? (.ref l) >>= fun o => if ((o.getD #[]).isEmpty) = true then pure joiner else call (.builtin "str.join") [joiner, .ref l]) Q E s := by
  have e0 : (⟨z.cps.extract 0 0⟩ : Str) = Str.empty := by
    show (⟨_⟩ : Str) = ⟨#[]⟩
    congr 1
    apply Array.eq_empty_of_size_eq_zero
    rw [Array.size_extract]
    omega
  refine wpAny_bind ?_
  unfold reSlice
  rw [if_pos (by decide), e0]
  refine wpAny_mkStr ?_ (by decide)
  obtain ⟨n, hn⟩ := S.here
  refine wpAny_bind (wpAny_seqItems (o := { cls := .type "list", data := .seq (strValues acc).toArray n }) hn rfl ?_)
  rw [Option.getD_some]
  cases acc with
  | nil => exact wpAny_pure (h _ _)
  | cons p acc =>
    rw [if_neg (by simp [strValues])]
    refine SC.join (l := p :: acc) ⟨_, hn, rfl, _, rfl⟩ rfl ?_ fun t' k => h t' k
    refine joinOk_of_weight ?_ (by decide)
    have := sum_le _ hy
    rw [List.length_map] at this
    rw [List.length_map]
    omega

theorem wpAny_fin {z : Str} {Q : Fin → Shared → Prop}
    (h : wpAny (model prog w) A (reSlice z.cps 0 0 0 >>= fun joiner => seqItems? (.ref l) >>= fun o => if ((o.getD #[]).isEmpty) = true then pure joiner else call (.builtin "str.join") [joiner, .ref l]) (fun v s' => Q (.done (.ret v)) s') E s) :
    wpAny (model prog w) A (reSlice z.cps 0 0 0 >>= fun joiner => seqItems? (.ref l) >>= fun o => if ((o.getD #[]).isEmpty) = true then (pure joiner >>= fun text => ret text) else (call (.builtin "str.join") [joiner, .ref l] >>= fun text => ret text)) Q E s := by
  have e : (reSlice z.cps 0 0 0 >>= fun joiner => seqItems? (.ref l) >>= fun o => if ((o.getD #[]).isEmpty) = true then (pure joiner >>= fun text => ret text) else (call (.builtin "str.join") [joiner, .ref l] >>= fun text => ret text)) = ((reSlice z.cps 0 0 0 >>= fun joiner => seqItems? (.ref l) >>= fun o => if ((o.getD #[]).isEmpty) = true then pure joiner else call (.builtin "str.join") [joiner, .ref l]) >>= fun text => ret text) := by
    rw [bind_assoc]
    congr 1
    funext j
    rw [bind_assoc]
    congr 1
    funext o
    split <;> rfl
  rw [e]
  exact wpAny_bind (wpAny_mono h (fun v s' q => wpAny_pure q) fun _ _ q => q)

theorem subloop_ok {z r : Str} {t tr : Tok} {R : Result → Shared → Prop} (X : (KK w).In h₀) (hr : r.length ≤ 100) (hz : z.cps.size ≤ 100) : ∀ (n st : Nat) (c : Int) (acc : List (Str × Tok)) (s : Shared),
    SubAt h₀ L mm news l acc s.heap → st ≤ z.cps.size → z.cps.size - st < n → acc.length + 2 * (z.cps.size - st) + 3 ≤ 1000 → (∀ y ∈ acc.map (·.1), y.length ≤ 100) →
    (∀ acc' t' k h', SubAt h₀ L mm news l acc' h' → R (.ok (.ret (.str (Txt.join Str.empty (acc.map (·.1) ++ piecesF z.cps r n st)) t'))) { s with heap := h', toks := k }) →
    codeAny (model prog w) A (.builtin "re.Pattern.sub.loop" ⟨[.ref 36, .str z t, .str r tr, rawInt 0, rawInt 0, rawInt c, rawInt st, rawInt st, .bool false, .ref l, .bool false], []⟩) R s
  | 0, st, c, acc, s => fun _ _ h => absurd h (Nat.not_lt_zero _)
  | n + 1, st, c, acc, s => by
    intro S hst hn hlen hy hq
    have ih := subloop_ok (t := t) (tr := tr) (R := R) X hr hz n
    obtain ⟨fs, its, P⟩ := pat_eol' (X.keeps S.F.keep)
    refine codeAny_builtin entry_subloop ?_
    unfold Builtin.«re.Pattern.sub.loop»
    dsimp only
    refine wpAny_bind (whole_ok P ?_)
    refine wpAny_bind ?_
    show wpAny _ _ (reLiteralCannotBeTurned (.str r tr)) _ _ _
    refine wpAny_of_eq (show reLiteralCannotBeTurned (.str r tr) = pure () from rfl) ?_
    refine wpAny_bind ?_
    have hs := search_from z.cps st hst
    have e1 : ((st : Int).toNat) = st := Int.toNat_natCast st
    show wpAny _ _ (reRunToEnd (Sre.forSearch eolCode z.cps 0 ((st : Int).toNat) z.cps.size false)) _ _ _
    rw [e1]
    unfold piecesF at hq
    cases hf : firstP z.cps (z.cps.size + 1 - st) st with
    | none =>
      rw [hf] at hs hq
      refine reRun_ok 5 (by decide) none hs ?_
      dsimp only
      try simp only [e1]
      dsimp only at hq
      by_cases h1 : st < z.cps.size
      · rw [if_pos h1] at hq ⊢
        unfold reSlice
        rw [if_pos (by decide)]
        refine wpAny_bind (wpAny_mkStr ?_ (Nat.le_trans (cut_len z.cps st z.cps.size) (Nat.le_trans hz (by decide))))
        refine wpAny_bind (push_ok (y := cutS z.cps st z.cps.size) S (by omega) fun h' S' => ?_)
        refine wpAny_fin (subfinish (z := z) (r := r) S' (by rw [List.length_append]; simp; omega) ?_ fun t' k => ?_)
        · intro y hy'
          rw [List.map_append, List.mem_append] at hy'
          rcases hy' with q | q
          · exact hy y q
          · rw [List.map_cons, List.map_nil, List.mem_singleton] at q
            rw [q]
            exact Nat.le_trans (cut_len ..) hz
        · have := hq _ t' k h' S'
          rw [List.map_append]
          exact this
      · rw [if_neg h1] at hq ⊢
        refine wpAny_fin (subfinish (z := z) (r := r) S (by omega) hy fun t' k => ?_)
        have := hq _ t' k _ S
        rw [List.append_nil] at this
        exact this
    | some p =>
      rw [hf] at hs hq
      obtain ⟨m', hm, hms, hmh⟩ := hs
      obtain ⟨a1, a2, a3⟩ := firstP_in _ _ _ _ hf
      have b1 := over_gt z.cps p
      have b2 := over_le a2
      refine reRun_ok 5 (by decide) (some m') hm ?_
      dsimp only
      try simp only [e1]
      dsimp only at hq
      have e3 : (m'.handed == m'.start) = false := by
        rw [hms, hmh, beq_eq_false_iff_ne]; omega
      rw [e3, hms, hmh]
      by_cases h1 : st < p
      · rw [if_pos h1] at hq ⊢
        unfold reSlice
        rw [if_pos (by decide)]
        refine wpAny_bind (wpAny_mkStr ?_ (Nat.le_trans (cut_len z.cps st p) (Nat.le_trans hz (by decide))))
        refine wpAny_bind (push_ok (y := cutS z.cps st p) S (by omega) fun h' S' => ?_)
        rw [if_pos (by decide)]
        refine wpAny_bind (wpAny_pure ?_)
        rw [if_pos (by rfl)]
        refine wpAny_bind (push_ok (y := r) (t := tr) S' (by rw [List.length_append]; simp; omega) fun h'' S'' => ?_)
        refine wpAny_pure ⟨plainId_quiet (by decide +kernel) _, ih _ _ _ _ S'' b2 (by omega) (by rw [List.length_append, List.length_append]; simp; omega) ?_ ?_⟩
        · intro y hy'
          rw [List.map_append, List.mem_append, List.map_append, List.mem_append] at hy'
          rcases hy' with (q | q) | q
          · exact hy y q
          · rw [List.map_cons, List.map_nil, List.mem_singleton] at q
            rw [q]
            exact Nat.le_trans (cut_len ..) hz
          · rw [List.map_cons, List.map_nil, List.mem_singleton] at q
            rw [q]
            exact hr
        · intro acc' t' k h3 S3
          have := hq acc' t' k h3 S3
          simpa [List.append_assoc] using this
      · rw [if_neg h1] at hq ⊢
        rw [if_pos (by decide)]
        refine wpAny_bind (wpAny_pure ?_)
        rw [if_pos (by rfl)]
        refine wpAny_bind (push_ok (y := r) (t := tr) S (by omega) fun h'' S'' => ?_)
        refine wpAny_pure ⟨plainId_quiet (by decide +kernel) _, ih _ _ _ _ S'' b2 (by omega) (by rw [List.length_append]; simp; omega) ?_ ?_⟩
        · intro y hy'
          rw [List.map_append, List.mem_append] at hy'
          rcases hy' with q | q
          · exact hy y q
          · rw [List.map_cons, List.map_nil, List.mem_singleton] at q
            rw [q]
            exact hr
        · intro acc' t' k h3 S3
          have := hq acc' t' k h3 S3
          simpa [List.append_assoc] using this
end

end
end Mine

namespace Mine
section
open PySem PySem.W PyProof.Rows PySem.Calls PySem.Spec PySem.Builtin.Re
set_option maxRecDepth 100000

theorem notcall : typeLookup (.type "str") "__call__" = pure none := by rw [typeLookup_type, builtinLookup_eq_fast]; kernel_rfl
noncomputable def fixF (z : Str) : Str := Txt.join Str.empty (piecesF z.cps (Str.ofString "\r\n") (z.cps.size + 1) 0)
section
variable {prog : Program} {w : World} {A : Around} {E : Value → Shared → Prop} {s : Shared} {h₀ : Heap} {L : Addr} {mm : Str → Option Value} {news : List (Addr × Obj)}
theorem getSub_K {pl : Sem Bool} {Q : Value × List Value → Shared → Prop} (X : (KK w).In h₀) (F : Fr h₀ L s.heap mm) (h : Q (.builtin "re.Pattern.sub", [.ref 36]) s) : wpAny (model prog w) A (getMethod (.ref 36) (Str.ofString "sub") pl) Q E s := by
  obtain ⟨fs, its, P⟩ := pat_eol' (X.keeps F.keep)
  exact getMethod_builtin ⟨_, P.pat, rfl⟩ pa_pat slot_sub type_sub (fun a e => by cases e; exact ⟨_, P.pat, rfl⟩) h
theorem sub_K {z : Str} {t tr : Tok} {Q : Value → Shared → Prop} (X : (KK w).In h₀) (F : Fr h₀ L s.heap mm) (N : News h₀ L s.heap news) (hz : z.cps.size ≤ 100)
    (h : ∀ t' h' k, Fr h₀ L h' mm → News h₀ L h' news → Q (.str (fixF z) t') { s with heap := h', toks := k }) :
    wpAny (model prog w) A (call (.builtin "re.Pattern.sub") [.ref 36, .str (Str.ofString "\r\n") tr, .str z t]) Q E s := by
  obtain ⟨fs, its, P⟩ := pat_eol' (X.keeps F.keep)
  have hT : s.TypeIs (.ref 36) "re.Pattern" := ⟨_, P.pat, rfl⟩
  have hS : s.TypeIs (.str (Str.ofString "\r\n") tr) "str" := typeIs_str _ _ _
  refine wpAny_call (codeAny_call_builtin slot_sub.plain entry_sub (slot_sub.check _ _ _ _ _ _ _ _ hT (args_sub _ _ _) ?_))
  unfold Builtin.«re.Pattern.sub» reSubstitute
  dsimp only
  refine wpAny_bind (wpAny_of_eq (show reNamed "re.Pattern.sub" "sub" ["repl", "string", "count"] 2 [.str (Str.ofString "\r\n") tr, .str z t] [] = pure [some (.str (Str.ofString "\r\n") tr), some (.str z t), none] from rfl) ?_)
  dsimp only
  refine wpAny_bind (wpAny_pure ?_)
  refine wpAny_bind (wpAny_specialOf hS notcall ?_)
  dsimp only [Option.isSome]
  refine wpAny_bind ?_
  refine wpAny_of_eq (show asStr? (.str (Str.ofString "\r\n") tr) = pure (some (Str.ofString "\r\n")) from rfl) ?_
  dsimp only
  refine wpAny_bind (wpAny_pure ?_)
  rw [if_neg Bool.false_ne_true, if_pos (by decide +kernel)]
  refine wpAny_bind (wpAny_pure ?_)
  dsimp only
  refine wpAny_bind (wpAny_holding (whole_ok P ?_))
  rw [if_neg (by decide)]
  refine wpAny_bind (wpAny_newList ?_ (by decide))
  refine wpAny_pure ⟨plainId_quiet (by decide +kernel) _, ?_⟩
  have F1 := F.push { cls := .type "list", data := .seq ([] : List Value).toArray }
  have N1 := N.push F { cls := .type "list", data := .seq ([] : List Value).toArray }
  refine subloop_ok (r := Str.ofString "\r\n") X (by decide) hz (z.cps.size + 1) 0 0 [] _ (⟨F1, fun p hp => N1 p (.tail _ hp), ?_, ?_, ?_, ⟨0, (N1 _ (.head _)).1⟩⟩) (Nat.zero_le _) (by omega) (by simp; omega) ?_ ?_
  · exact (N1 _ (.head _)).2.1
  · exact (N1 _ (.head _)).2.2
  · intro p hp
    exact Nat.ne_of_lt (Heap.lt_size (N p hp).1)
  · intro y hy
    cases hy
  · intro acc' t' k h' S'
    exact h t' h' k S'.F S'.N
end

end
end Mine

namespace Mine
section
open PySem PySem.W PyProof.Rows PySem.Calls PySem.Spec
set_option maxRecDepth 100000
local macro_rules | `(tactic| walk_at "mine dummy E5 0") => `(tactic| skip)
local macro_rules | `(tactic| walk_at "mine dummy E5 1") => `(tactic| skip)
local macro_rules | `(tactic| walk_at "mine dummy E5 2") => `(tactic| skip)
local macro_rules | `(tactic| walk_at "mine dummy E5 3") => `(tactic| skip)
local macro_rules | `(tactic| walk_at "mine dummy E5 4") => `(tactic| skip)
local macro_rules | `(tactic| walk_at "mine dummy E5 5") => `(tactic| skip)
local macro_rules | `(tactic| walk_at "getMethod ref") => `(tactic| (k_here; (refine' getSub_K ?k1 ?k2 ?_; (case k1 => k_asm); (case k2 => k_asm)); k_whole; (try dsimp only)))
local macro_rules | `(tactic| walk_at "call builtin:re.Pattern.sub") => `(tactic| (k_here; (refine' sub_K ?k1 ?k2 ?k3 ?k4 ?_); (case k1 => k_asm); (case k2 => k_asm); (case k3 => k_asm); (case k4 => assumption); k_whole; intro t9 h9 tk9 F9 N9; (try dsimp only); (try k_fold)))
set_option maxHeartbeats 8000000 in
theorem fix_says (w : World) (mean mg mb) (z : Str) (t1 : Tok) (hz : z.cps.size ≤ 100) : Says 1 w mean mg mb 43 [.str z t1] (fun _ => True) (fun v nx => nx = [] ∧ ∃ t, v = .str (fixF z) t) := by
  unfold Says KK prog
  k_fill
  intro dp un gd cn cs a ccd cl outer A₀ base h₀ L m news s Q E B F X N T hk hd hu hp hret
  refine wpAny_call ?_
  k_dflt cell_enter
  k_steps
  all_goals (refine' says_ret0 (Q := Q) (s := s) hret ?k1 ?k2 ?k3 ?k4; (case k1 => k_asm); (case k2 => assumption); (case k3 => exact fun p hp => hp); (case k4 => exact ⟨rfl, _, rfl⟩))

theorem fix_use {w : World} {mean : ExcName → Option Value} {mg mb : Str → Option Value} {z : Str} {t1 : Tok} (hz : z.cps.size ≤ 100)
    {dp un : Nat} {gd : Option (List Code)} {cn : Str} {cs : Scope} {a : Addr} {ccd : Value} {cl : List (Str × Addr)} {outer : List Env} {A₀ : Around} {base h₀ : Heap} {L : Addr} {m : Str → Option Value} {news : List (Addr × Obj)} {s : Shared} {Q E : Value → Shared → Prop}
    (B : Below A₀ base outer h₀) (F : Fr h₀ L s.heap m) (X : (KK w).In h₀) (N : News h₀ L s.heap news) (T : Top hd.view_39 loose0 mean mg mb h₀) (hk : cs.kind = .function) (hd : dp + 1 < recursionLimit) (hu : un + 8 * 1 < cLine)
    (ret : ∀ t h' tk', Fr h₀ L h' m → News h₀ L h' news → Q (.str (fixF z) t) { s with heap := h', toks := tk' }) :
    wpAny (model prog w) (ktrTop dp un gd cn cs L a ccd cl outer) (call (.ref 43) [.str z t1]) Q E s :=
  says_use (fix_says w mean mg mb z t1 hz) B F X N T hk hd hu trivial (fun v nx h' tk' r _ F' N' => by
    obtain ⟨e, t, e'⟩ := r
    subst e; subst e'
    exact ret t h' tk' F' N')

end
end Mine

namespace Mine
section
open PySem PySem.W PyProof.Rows PySem.Calls PySem.Spec
set_option maxRecDepth 100000
def al : List Nat := [13, 10, 46, 97]
def TextOk (x : Str) : Prop := ∃ a b c d e f, a ∈ al ∧ b ∈ al ∧ c ∈ al ∧ d ∈ al ∧ e ∈ al ∧ f ∈ al ∧ x = ⟨#[a, b, c, d, e, f]⟩
def TextOk.size {x : Str} (h : TextOk x) : x.cps.size = 6 := by
  obtain ⟨a, b, c, d, e, f, _, _, _, _, _, _, rfl⟩ := h; rfl
def rf : Nat → List Nat
  | 0 => []
  | n + 1 => 13 :: 10 :: rf n
def isEnd (n : Nat) : Bool := n == 13 || n == 10
def putL (c : Nat) (z : List Nat) (l : List Nat) : List Nat := l.flatMap fun n => if n = c then z else [n]
def crlfL : List Nat → List Nat
  | 13 :: 10 :: r => 10 :: crlfL r
  | a :: r => a :: crlfL r
  | [] => []
def fixL (l : List Nat) : List Nat := putL 10 [13, 10] (putL 13 [10] (crlfL l))
def six (p : List Nat → Bool) (a b : Nat) : Bool := al.all fun c => al.all fun d => al.all fun e => al.all fun f => p [a, b, c, d, e, f]
theorem six_get {p : List Nat → Bool} {a b c d e f : Nat} (h : six p a b = true) (hc : c ∈ al) (hd : d ∈ al) (he : e ∈ al) (hf : f ∈ al) : p [a, b, c, d, e, f] = true :=
  List.all_eq_true.mp (List.all_eq_true.mp (List.all_eq_true.mp (List.all_eq_true.mp h c hc) d hd) e he) f hf

theorem ofs1 : Str.ofString "\r\n" = ⟨#[13, 10]⟩ := by decide +kernel
theorem ofs2 : Str.ofString "\r" = ⟨#[13]⟩ := by decide +kernel
theorem ofs3 : Str.ofString "\n" = ⟨#[10]⟩ := by decide +kernel

theorem putL_append (c : Nat) (z a b : List Nat) : putL c z (a ++ b) = putL c z a ++ putL c z b := List.flatMap_append
theorem putL_free (c : Nat) (z : List Nat) : ∀ l : List Nat, c ∉ l → putL c z l = l
  | [], _ => rfl
  | k :: r, h => by
    have h1 : ¬ k = c := fun e => h (e ▸ List.mem_cons_self ..)
    have h2 : c ∉ r := fun m => h (List.mem_cons_of_mem _ m)
    have ih := putL_free c z r h2
    unfold putL at ih ⊢
    rw [List.flatMap_cons, if_neg h1, ih]
    rfl
theorem putL_join (c : Nat) (z : List Nat) : ∀ parts : List Str, (∀ p ∈ parts, c ∉ p.cps.toList) → putL c z (Str.join ⟨#[c]⟩ parts).cps.toList = (Str.join ⟨z.toArray⟩ parts).cps.toList
  | [], _ => rfl
  | [p], h => putL_free c z _ (h p (List.mem_singleton.mpr rfl))
  | p :: q :: r, h => by
    have ih := putL_join c z (q :: r) fun a ha => h a (List.mem_cons_of_mem _ ha)
    show putL c z (p ++ ⟨#[c]⟩ ++ Str.join ⟨#[c]⟩ (q :: r)).cps.toList = (p ++ ⟨z.toArray⟩ ++ Str.join ⟨z.toArray⟩ (q :: r)).cps.toList
    simp only [Str.cps_append, Array.toList_append]
    rw [putL_append, putL_append, ih, putL_free c z _ (h p (List.mem_cons_self ..))]
    show p.cps.toList ++ putL c z [c] ++ _ = _
    simp [putL]
theorem replace_put (x : Str) (c : Nat) (z : List Nat) : (Txt.replace x ⟨#[c]⟩ ⟨z.toArray⟩) = ⟨(putL c z x.cps.toList).toArray⟩ := by
  have e : (Txt.replace x ⟨#[c]⟩ ⟨z.toArray⟩).cps.toList = putL c z x.cps.toList := by
    rw [StrLaws.replace_one, ← putL_join c z _ (StrLaws.split_free x c), StrLaws.join_split]
  rw [← e]

end
end Mine

namespace Mine
section
open PySem PySem.W PyProof.Rows PySem.Calls PySem.Spec PyProof.V PySem.W.KStt
set_option maxRecDepth 100000
theorem crlfL_two (m : List Nat) : crlfL (13 :: 10 :: m) = 10 :: crlfL m := rfl
theorem crlfL_other {a : Nat} {r : List Nat} (h : ¬ (a = 13 ∧ r[0]? = some 10)) : crlfL (a :: r) = a :: crlfL r := by
  rw [crlfL.eq_def]
  split
  · rename_i e
    injection e with e1 e2
    subst e1; subst e2
    exact absurd ⟨rfl, rfl⟩ h
  · rename_i e
    injection e with e1 e2
    subst e1; subst e2
    rfl
  · rename_i e
    cases e
/-- a pair at place j -/
def pairAt (l : List Nat) (j : Nat) : Prop := l[j]? = some 13 ∧ l[j + 1]? = some 10
theorem crlfL_free : ∀ l : List Nat, (∀ j, ¬ pairAt l j) → crlfL l = l
  | [], _ => rfl
  | a :: r, h => by
    rw [crlfL_other (fun ⟨e1, e2⟩ => h 0 ⟨by rw [e1]; rfl, e2⟩), crlfL_free r (fun j hj => h (j + 1) hj)]
theorem crlfL_gap (m : List Nat) : ∀ p : List Nat, (∀ j, j < p.length → ¬ pairAt (p ++ 13 :: 10 :: m) j) → crlfL (p ++ 13 :: 10 :: m) = p ++ 10 :: crlfL m
  | [], _ => crlfL_two m
  | a :: r, h => by
    have h0 := h 0 (by simp)
    have ih := crlfL_gap m r (fun j hj hp => h (j + 1) (by simp; omega) hp)
    show crlfL (a :: (r ++ 13 :: 10 :: m)) = a :: (r ++ 10 :: crlfL m)
    rw [crlfL_other (fun ⟨e1, e2⟩ => h0 ⟨by rw [e1]; rfl, e2⟩), ih]
open Builtin Builtin.Str in
theorem at_pair (x : Str) (i : Nat) : StrLaws.At x ⟨#[13, 10]⟩ x.length i ↔ pairAt x.cps.toList i := by
  have hn : x.cps.toList.length = x.length := by simp [Str.length]
  unfold StrLaws.At pairAt
  rw [StrLaws.subAt_eq, beq_iff_eq, show (⟨#[13, 10]⟩ : Str).length = 2 from rfl, show ((⟨#[13, 10]⟩ : Str).cps.toList) = [13, 10] from rfl, ← hn]
  generalize x.cps.toList = L
  have e0 : L[i]? = (L.drop i)[0]? := by rw [List.getElem?_drop]; rfl
  have e1 : L[i + 1]? = (L.drop i)[1]? := by rw [List.getElem?_drop]
  have e2 : L.length = i + (L.drop i).length ∨ L.drop i = [] := by
    rw [List.length_drop]
    by_cases h : i ≤ L.length
    · left; omega
    · right; exact List.drop_of_length_le (by omega)
  rw [e0, e1]
  generalize L.drop i = D at *
  match D, e2 with
  | [], _ => simp
  | [a], _ => simp
  | a :: b :: r, e2 =>
    have e3 : L.length = i + (r.length + 2) := by
      rcases e2 with e | e
      · simpa using e
      · cases e
    simp
    omega
open Builtin Builtin.Str in
theorem crlf_join (x : Str) : ∀ (cuts : List Nat) (a f : Nat), StrLaws.ChainG x ⟨#[13, 10]⟩ x.length a cuts f → (∀ k, f ≤ k → ¬ StrLaws.At x ⟨#[13, 10]⟩ x.length k) →
    (Str.join ⟨#[10]⟩ (StrLaws.partsFrom x 2 a cuts)).cps.toList = crlfL (x.cps.toList.drop a)
  | [], a, f, h, hn => by
    have e : f = a := h
    subst e
    show (strSub x f x.length).cps.toList = _
    have hl : x.cps.toList.length = x.length := by simp [Str.length]
    rw [StrLaws.strSub_toList, List.take_of_length_le (by rw [List.length_drop, hl]; exact Nat.le_refl _)]
    refine (crlfL_free _ fun j hj => hn (f + j) (by omega) ((at_pair x (f + j)).mpr ?_)).symm
    unfold pairAt at hj ⊢
    rw [List.getElem?_drop, List.getElem?_drop] at hj
    exact hj
  | c :: r, a, f, h, hn => by
    obtain ⟨hac, hA, hg, hr⟩ := h
    have ih := crlf_join x r (c + 2) f hr hn
    obtain ⟨p, q, e⟩ := StrLaws.partsFrom_ne x 2 (c + 2) r
    show (Str.join ⟨#[10]⟩ (strSub x a c :: StrLaws.partsFrom x 2 (c + 2) r)).cps.toList = _
    rw [e] at ih ⊢
    show (strSub x a c ++ ⟨#[10]⟩ ++ Str.join ⟨#[10]⟩ (p :: q)).cps.toList = _
    simp only [Str.cps_append, Array.toList_append]
    rw [ih, StrLaws.strSub_toList]
    have hp := (at_pair x c).mp hA
    have hg' : ∀ k, a ≤ k → k < c → ¬ pairAt x.cps.toList k := fun k h1 h2 h3 => hg k h1 h2 ((at_pair x k).mpr h3)
    generalize x.cps.toList = L at *
    have hc1 : c + 1 < L.length := by
      have := (List.getElem?_eq_some_iff.mp hp.2).1
      exact this
    have e1 : L.drop c = 13 :: 10 :: L.drop (c + 2) := by
      rw [List.drop_eq_getElem_cons (show c < L.length by omega), List.drop_eq_getElem_cons hc1]
      have h1 := (List.getElem?_eq_some_iff.mp hp.1).2
      have h2 := (List.getElem?_eq_some_iff.mp hp.2).2
      rw [h1, h2]
    have e2 : L.drop a = (L.drop a).take (c - a) ++ 13 :: 10 :: L.drop (c + 2) := by
      rw [← e1, show L.drop c = (L.drop a).drop (c - a) by rw [List.drop_drop]; congr 1; omega]
      exact (List.take_append_drop _ _).symm
    have hlen : ((L.drop a).take (c - a)).length = c - a := by simp; omega
    have key := crlfL_gap (L.drop (c + 2)) ((L.drop a).take (c - a)) (fun j hj hpj => by
      rw [← e2] at hpj
      rw [hlen] at hj
      refine hg' (a + j) (by omega) (by omega) ?_
      unfold pairAt at hpj ⊢
      rw [List.getElem?_drop, List.getElem?_drop] at hpj
      exact hpj)
    rw [← e2] at key
    rw [key]
    show _ ++ [10] ++ _ = _
    rw [List.append_assoc]
    rfl
open Builtin Builtin.Str in
theorem crlf_all (x : Str) : Txt.replace x ⟨#[13, 10]⟩ ⟨#[10]⟩ = ⟨(crlfL x.cps.toList).toArray⟩ := by
  obtain ⟨f, h, hn⟩ := StrLaws.occ_tight x ⟨#[13, 10]⟩ (by decide)
  have key := crlf_join x _ 0 f h hn
  rw [List.drop_zero] at key
  have h10 : ((⟨#[13, 10]⟩ : Str).length == 0) = false := rfl
  unfold Txt.replace
  rw [h10, Bool.false_and, Bool.or_false]
  cases he : occurrences x ⟨#[13, 10]⟩ 0 x.length (x.length + 1) with
  | nil =>
    rw [if_pos (by rfl)]
    rw [he] at key
    rw [← key]
    show x = ⟨(strSub x 0 x.length).cps.toList.toArray⟩
    rw [StrLaws.sub_whole]
  | cons i r =>
    rw [if_neg (by exact Bool.false_ne_true), StrLaws.glued_eq_join, StrLaws.partsBetween_eq]
    rw [he] at key
    rw [← key]
    rfl

end
end Mine

namespace Mine
section
open PySem PySem.W PyProof.Rows PySem.Calls PySem.Spec PyProof.V PySem.W.KStt
set_option maxRecDepth 100000
open Builtin Builtin.Str in
theorem join_none (ps : List Str) : (Txt.join ⟨#[]⟩ ps).cps.toList = ps.flatMap fun p => p.cps.toList := by
  show (glued ⟨#[]⟩ ps).cps.toList = _
  rw [StrLaws.glued_eq_join]
  induction ps with
  | nil => rfl
  | cons p q ih =>
    cases q with
    | nil => simp [Str.join]
    | cons a r =>
      show (p ++ ⟨#[]⟩ ++ Str.join ⟨#[]⟩ (a :: r)).cps.toList = _
      simp only [Str.cps_append, Array.toList_append]
      rw [ih, List.flatMap_cons]
      simp
theorem putL_cons (c : Nat) (z : List Nat) (a : Nat) (r : List Nat) : putL c z (a :: r) = (if a = c then z else [a]) ++ putL c z r := List.flatMap_cons ..
theorem fixL_ten (r : List Nat) : fixL (10 :: r) = 13 :: 10 :: fixL r := by
  unfold fixL
  rw [crlfL_other (fun h => absurd h.1 (by decide)), putL_cons, if_neg (by decide)]
  show putL 10 [13, 10] (10 :: putL 13 [10] (crlfL r)) = _
  rw [putL_cons, if_pos rfl]
  rfl
theorem fixL_pair (r : List Nat) : fixL (13 :: 10 :: r) = 13 :: 10 :: fixL r := by
  unfold fixL
  rw [crlfL_two, putL_cons, if_neg (by decide)]
  show putL 10 [13, 10] (10 :: putL 13 [10] (crlfL r)) = _
  rw [putL_cons, if_pos rfl]
  rfl
theorem fixL_cr {r : List Nat} (h : r[0]? ≠ some 10) : fixL (13 :: r) = 13 :: 10 :: fixL r := by
  unfold fixL
  rw [crlfL_other (fun q => h q.2), putL_cons, if_pos rfl]
  show putL 10 [13, 10] (10 :: putL 13 [10] (crlfL r)) = _
  rw [putL_cons, if_pos rfl]
  rfl
theorem fixL_other {a : Nat} (r : List Nat) (h : a ≠ 13 ∧ a ≠ 10) : fixL (a :: r) = a :: fixL r := by
  unfold fixL
  rw [crlfL_other (fun q => h.1 q.1), putL_cons, if_neg h.1]
  show putL 10 [13, 10] (a :: putL 13 [10] (crlfL r)) = _
  rw [putL_cons, if_neg h.2]
  rfl
theorem fixL_run (m : List Nat) : ∀ p : List Nat, (∀ a ∈ p, a ≠ 13 ∧ a ≠ 10) → fixL (p ++ m) = p ++ fixL m
  | [], _ => rfl
  | a :: r, h => by
    show fixL (a :: (r ++ m)) = a :: (r ++ fixL m)
    rw [fixL_other _ (h a (.head _)), fixL_run m r (fun b hb => h b (.tail _ hb))]
theorem drop_at (z : Array Nat) {s : Nat} (h : s < z.size) : z.toList.drop s = z.getD s 0 :: z.toList.drop (s + 1) := by
  rw [List.drop_eq_getElem_cons (by simpa using h)]
  congr 1
  simp [Array.getD, h]
theorem drop_out (z : Array Nat) {s : Nat} (h : z.size ≤ s) : z.toList.drop s = [] := List.drop_of_length_le (by simpa using h)
theorem firstP_spec (z : Array Nat) : ∀ n s : Nat, z.size < n + s →
    (firstP z n s = none ∧ ∀ a ∈ z.toList.drop s, a ≠ 13 ∧ a ≠ 10) ∨
    (∃ p, firstP z n s = some p ∧ s ≤ p ∧ p < z.size ∧ (z.getD p 0 = 10 ∨ z.getD p 0 = 13) ∧ ∀ a ∈ (z.toList.drop s).take (p - s), a ≠ 13 ∧ a ≠ 10)
  | 0, s, h => .inl ⟨rfl, fun a ha => by rw [drop_out z (by omega)] at ha; cases ha⟩
  | n + 1, s, h => by
    unfold firstP
    by_cases h1 : z.size ≤ s
    · rw [if_pos h1]
      exact .inl ⟨rfl, fun a ha => by rw [drop_out z h1] at ha; cases ha⟩
    · rw [if_neg h1]
      by_cases h2 : (z.getD s 0 == 10 || z.getD s 0 == 13) = true
      · rw [if_pos h2]
        refine .inr ⟨s, rfl, Nat.le_refl _, by omega, by simpa using h2, fun a ha => ?_⟩
        rw [Nat.sub_self] at ha
        cases ha
      · rw [if_neg h2]
        have h3 : z.getD s 0 ≠ 13 ∧ z.getD s 0 ≠ 10 := ⟨fun e => h2 (by rw [e]; rfl), fun e => h2 (by rw [e]; rfl)⟩
        rcases firstP_spec z n (s + 1) (by omega) with ⟨e, ha⟩ | ⟨p, e, h4, h5, h6, ha⟩
        · refine .inl ⟨e, fun a hm => ?_⟩
          rw [drop_at z (by omega)] at hm
          rcases List.mem_cons.mp hm with rfl | hm
          · exact h3
          · exact ha a hm
        · refine .inr ⟨p, e, by omega, h5, h6, fun a hm => ?_⟩
          rw [drop_at z (by omega), show p - s = (p - (s + 1)) + 1 by omega, List.take_succ_cons] at hm
          rcases List.mem_cons.mp hm with rfl | hm
          · exact h3
          · exact ha a hm
theorem cutS_list (z : Array Nat) (a b : Nat) : (cutS z a b).cps.toList = (z.toList.drop a).take (b - a) := by
  show (z.extract a b).toList = _
  simp
theorem pieces_fix (z : Array Nat) : ∀ n s : Nat, z.size < n + s → ((piecesF z ⟨#[13, 10]⟩ n s).flatMap fun p => p.cps.toList) = fixL (z.toList.drop s)
  | 0, s, h => by
    rw [drop_out z (by omega)]
    rfl
  | n + 1, s, h => by
    unfold piecesF
    rcases firstP_spec z (z.size + 1 - s) s (by omega) with ⟨e, ha⟩ | ⟨p, e, h4, h5, h6, ha⟩
    · rw [e]
      show ((if s < z.size then [cutS z s z.size] else []).flatMap fun p => p.cps.toList) = _
      have e2 := fixL_run [] _ ha
      rw [List.append_nil] at e2
      rw [e2, show fixL [] = [] from rfl, List.append_nil]
      by_cases hs : s < z.size
      · rw [if_pos hs, List.flatMap_cons, List.flatMap_nil, List.append_nil, cutS_list, List.take_of_length_le (by simp)]
      · rw [if_neg hs, drop_out z (by omega)]
        rfl
    · rw [e]
      show (((if s < p then [cutS z s p] else []) ++ ⟨#[13, 10]⟩ :: piecesF z ⟨#[13, 10]⟩ n (overP z p)).flatMap fun p => p.cps.toList) = _
      have ho := over_gt z p
      rw [List.flatMap_append, List.flatMap_cons, pieces_fix z n (overP z p) (by omega)]
      have e1 : ((if s < p then [cutS z s p] else []).flatMap fun p => p.cps.toList) = (z.toList.drop s).take (p - s) := by
        by_cases hs : s < p
        · rw [if_pos hs, List.flatMap_cons, List.flatMap_nil, List.append_nil, cutS_list]
        · rw [if_neg hs, show p - s = 0 by omega]
          rfl
      have e2 : z.toList.drop s = (z.toList.drop s).take (p - s) ++ z.toList.drop p := by
        rw [show z.toList.drop p = (z.toList.drop s).drop (p - s) by rw [List.drop_drop]; congr 1; omega]
        exact (List.take_append_drop _ _).symm
      have e3 := fixL_run (z.toList.drop p) _ ha
      rw [← e2] at e3
      rw [e1, e3]
      congr 1
      show 13 :: 10 :: fixL (z.toList.drop (overP z p)) = _
      rw [drop_at z h5]
      unfold overP
      by_cases hc : z.getD p 0 = 13 ∧ p + 1 < z.size ∧ z.getD (p + 1) 0 = 10
      · rw [if_pos hc, drop_at z hc.2.1, hc.1, hc.2.2, fixL_pair]
      · rw [if_neg hc]
        rcases h6 with q | q
        · rw [q, fixL_ten]
        · rw [q, fixL_cr]
          intro hx
          refine hc ⟨q, ?_⟩
          by_cases hs : p + 1 < z.size
          · rw [drop_at z hs] at hx
            exact ⟨hs, by simpa using hx⟩
          · rw [drop_out z (by omega)] at hx
            cases hx
theorem fix_all (x : Str) : fixF x = ⟨(fixL x.cps.toList).toArray⟩ := by
  have h := join_none (piecesF x.cps ⟨#[13, 10]⟩ (x.cps.size + 1) 0)
  rw [pieces_fix x.cps (x.cps.size + 1) 0 (by omega), List.drop_zero] at h
  unfold fixF
  rw [ofs1, ← h]
  rfl
theorem crlfL_len : ∀ (n : Nat) (l : List Nat), l.length ≤ n → (crlfL l).length ≤ l.length
  | _, [], _ => Nat.le_refl _
  | 0, _ :: _, h => absurd h (by simp)
  | n + 1, a :: r, h => by
    by_cases q : a = 13 ∧ r[0]? = some 10
    · obtain ⟨rfl, q2⟩ := q
      match r, q2, h with
      | b :: m, q2, h =>
        have hb : b = 10 := by simpa using q2
        subst hb
        have ih := crlfL_len n m (by simp at h; omega)
        rw [crlfL_two]
        simp only [List.length_cons]
        omega
    · have ih := crlfL_len n r (by simp at h; omega)
      rw [crlfL_other q]
      simp only [List.length_cons]
      omega
def FixOk (l : List Nat) : Prop := (fixL l).length ≤ 2 * l.length ∧ (fixL l).countP (· == 10) ≤ l.length ∧ (fixL l).filter isEnd = rf ((fixL l).countP (· == 10))
theorem fixOk_end {l m : List Nat} (e : fixL l = 13 :: 10 :: fixL m) (hl : m.length + 1 ≤ l.length) (h : FixOk m) : FixOk l := by
  obtain ⟨h1, h2, h3⟩ := h
  have e2 : (13 :: 10 :: fixL m).countP (· == 10) = (fixL m).countP (· == 10) + 1 := by simp
  unfold FixOk
  rw [e, e2]
  refine ⟨by simp only [List.length_cons]; omega, by omega, ?_⟩
  show 13 :: 10 :: (fixL m).filter isEnd = 13 :: 10 :: rf _
  rw [h3]
theorem fixL_ok : ∀ (n : Nat) (l : List Nat), l.length ≤ n → FixOk l
  | _, [], _ => ⟨Nat.le_refl _, Nat.le_refl _, rfl⟩
  | 0, _ :: _, h => absurd h (by simp)
  | n + 1, a :: r, h => by
    have hr : r.length ≤ n := by simp at h; omega
    by_cases h10 : a = 10
    · subst h10
      exact fixOk_end (fixL_ten r) (Nat.le_refl _) (fixL_ok n r hr)
    · by_cases h13 : a = 13
      · subst h13
        by_cases q : r[0]? = some 10
        · match r, q, hr with
          | b :: m, q, hr =>
            have hb : b = 10 := by simpa using q
            subst hb
            exact fixOk_end (fixL_pair m) (by simp) (fixL_ok n m (by simp at hr; omega))
        · exact fixOk_end (fixL_cr q) (Nat.le_refl _) (fixL_ok n r hr)
      · obtain ⟨h1, h2, h3⟩ := fixL_ok n r hr
        have he : isEnd a = false := by unfold isEnd; simp [h10, h13]
        have e2 : (a :: fixL r).countP (· == 10) = (fixL r).countP (· == 10) := by simp [h10]
        unfold FixOk
        rw [fixL_other r ⟨h13, h10⟩, e2]
        refine ⟨by simp only [List.length_cons]; omega, by simp only [List.length_cons]; omega, ?_⟩
        rw [List.filter_cons_of_neg (by simp [he]), h3]

end
end Mine

namespace Mine
section
open PySem PySem.W PyProof.Rows PySem.Calls PySem.Spec PyProof.V PySem.W.KStt
set_option maxRecDepth 100000

theorem item_ok (k : Int) : ∃ c, c ∈ al ∧ Txt.item (Str.ofString "\r\n.a") (k.fmod 4) = ⟨#[c]⟩ := by
  have h0 := Int.fmod_nonneg_of_pos k (show (0 : Int) < 4 by decide)
  have h1 := Int.fmod_lt_of_pos k (show (0 : Int) < 4 by decide)
  have h : k.fmod 4 = 0 ∨ k.fmod 4 = 1 ∨ k.fmod 4 = 2 ∨ k.fmod 4 = 3 := by omega
  rcases h with h | h | h | h <;> rw [h]
  · exact ⟨13, by decide, by decide +kernel⟩
  · exact ⟨10, by decide, by decide +kernel⟩
  · exact ⟨46, by decide, by decide +kernel⟩
  · exact ⟨97, by decide, by decide +kernel⟩
theorem ofs0 : Str.ofString "" = ⟨#[]⟩ := by decide +kernel
theorem text_ok {l : List Int} (hn : l.length = 6) : TextOk (Txt.join (Str.ofString "") (l.map fun k => Txt.item (Str.ofString "\r\n.a") (k.fmod 4))) := by
  match l, hn with
  | [a, b, c, d, e, f], _ =>
    obtain ⟨a', ha, ea⟩ := item_ok a
    obtain ⟨b', hb, eb⟩ := item_ok b
    obtain ⟨c', hc, ec⟩ := item_ok c
    obtain ⟨d', hd, ed⟩ := item_ok d
    obtain ⟨e', he, ee⟩ := item_ok e
    obtain ⟨f', hf, ef⟩ := item_ok f
    refine ⟨a', b', c', d', e', f', ha, hb, hc, hd, he, hf, ?_⟩
    simp only [List.map_cons, List.map_nil, ea, eb, ec, ed, ee, ef]
    rw [ofs0]
    rfl
theorem m_in (k : Int) : 3 ≤ 3 + k.fmod 4 ∧ 3 + k.fmod 4 ≤ 6 := by
  have h0 := Int.fmod_nonneg_of_pos k (show (0 : Int) < 4 by decide)
  have h1 := Int.fmod_lt_of_pos k (show (0 : Int) < 4 by decide)
  omega
theorem sum_in (l : List Int) (hn : l.length = 6) : 0 ≤ (l.map fun a => a.fmod (10 ^ Int.toNat 6)).sum ∧ (l.map fun a => a.fmod (10 ^ Int.toNat 6)).sum ≤ 10000000 := by
  have key : ∀ l : List Int, 0 ≤ (l.map fun a => a.fmod (10 ^ Int.toNat 6)).sum ∧ (l.map fun a => a.fmod (10 ^ Int.toNat 6)).sum ≤ 1000000 * (l.length : Int) := by
    intro l
    induction l with
    | nil => exact ⟨by decide, by decide⟩
    | cons a l ih =>
      have e : ((10 : Int) ^ Int.toNat 6) = 1000000 := by decide
      have h0 := Int.fmod_nonneg_of_pos a (show (0 : Int) < 10 ^ Int.toNat 6 by rw [e]; decide)
      have h1 := Int.fmod_lt_of_pos a (show (0 : Int) < 10 ^ Int.toNat 6 by rw [e]; decide)
      rw [List.map_cons, List.sum_cons, List.length_cons]
      generalize (List.map (fun a => a.fmod (10 ^ Int.toNat 6)) l).sum = S at *
      generalize a.fmod (10 ^ Int.toNat 6) = A at *
      rw [e] at h1
      omega
  have := key l
  rw [hn] at this
  omega
theorem take_len (ns : List Int) : (List.filter (fun _ => true) (List.take 6 (List.take 6 ns ++ [0, 1, 0, 0, 1, 1]))).length = 6 := by
  rw [List.filter_eq_self.2 (fun _ _ => rfl)]
  simp only [List.length_take, List.length_append, List.length_cons, List.length_nil]
  omega
theorem take_len' (ns : List Int) {f : Int → Int} : (List.map f (List.filter (fun _ => true) (List.take 6 (List.take 6 ns ++ [0, 1, 0, 0, 1, 1])))).length = 6 := by
  rw [List.length_map, take_len]

/-- what the tables say of a text -/
theorem crlf_is {x : Str} (h : TextOk x) : Txt.replace x (Str.ofString "\r\n") (Str.ofString "\n") = ⟨(crlfL x.cps.toList).toArray⟩ := by
  rw [ofs1, ofs3]
  exact crlf_all x
theorem crlf_len {x : Str} (h : TextOk x) : (Txt.replace x (Str.ofString "\r\n") (Str.ofString "\n")).length ≤ 6 := by
  rw [crlf_is h]
  exact Nat.le_trans (crlfL_len _ _ (Nat.le_refl _)) (Nat.le_of_eq h.size)
theorem fix_is {x : Str} (h : TextOk x) : fixF x = ⟨(fixL x.cps.toList).toArray⟩ := fix_all x
theorem putL_len (c a : Nat) (l : List Nat) : (putL c [a] l).length = l.length := by
  unfold putL
  induction l with
  | nil => rfl
  | cons k l ih =>
    rw [List.flatMap_cons, List.length_append, ih]
    split <;> simp <;> omega
theorem rep2_is {x : Str} (h : TextOk x) : Txt.replace (Txt.replace x (Str.ofString "\r\n") (Str.ofString "\n")) (Str.ofString "\r") (Str.ofString "\n") = ⟨(putL 13 [10] (crlfL x.cps.toList)).toArray⟩ := by
  rw [crlf_is h, ofs2, ofs3]
  exact replace_put _ 13 [10]
theorem rep2_len {x : Str} (h : TextOk x) : (Txt.replace (Txt.replace x (Str.ofString "\r\n") (Str.ofString "\n")) (Str.ofString "\r") (Str.ofString "\n")).length ≤ 6 := by
  have h1 := crlf_len h
  rw [crlf_is h] at h1
  rw [rep2_is h]
  show (putL 13 [10] (crlfL x.cps.toList)).length ≤ 6
  rw [putL_len]
  exact h1
theorem rep3_is {x : Str} (h : TextOk x) : Txt.replace (Txt.replace (Txt.replace x (Str.ofString "\r\n") (Str.ofString "\n")) (Str.ofString "\r") (Str.ofString "\n")) (Str.ofString "\n") (Str.ofString "\r\n") = fixF x := by
  rw [rep2_is h, fix_is h, ofs3, ofs1]
  exact replace_put _ 10 [13, 10]
theorem fix_len {x : Str} (h : TextOk x) : (fixF x).cps.size ≤ 12 := by
  rw [fix_is h]
  have h1 := (fixL_ok _ x.cps.toList (Nat.le_refl _)).1
  have h2 : x.cps.toList.length = 6 := h.size
  rw [h2] at h1
  exact h1
noncomputable def endsF (x : Str) : Int := Txt.count (fixF x) (Str.ofString "\n")
theorem ends_is {x : Str} (h : TextOk x) : endsF x = (((fixL x.cps.toList).countP (· == 10) : Nat) : Int) := by
  unfold endsF
  rw [fix_is h, ofs3, count_is, countIn_signs_sum]
  generalize fixL x.cps.toList = l
  show (l.map fun n => if decide (n = 10) = true then (1 : Int) else 0).sum = _
  induction l with
  | nil => rfl
  | cons n l ih =>
    rw [List.map_cons, List.sum_cons, ih, List.countP_cons]
    by_cases e : n = 10
    · subst e
      simp
      omega
    · simp [e]
theorem facts3 {x : Str} (h : TextOk x) : (fixL x.cps.toList).countP (· == 10) ≤ 6 ∧ (fixL x.cps.toList).filter isEnd = rf ((fixL x.cps.toList).countP (· == 10)) ∧ (x.cps.toList.filter isEnd).length ≤ 6 := by
  obtain ⟨_, h1, h2⟩ := fixL_ok _ x.cps.toList (Nat.le_refl _)
  have h3 : x.cps.toList.length = 6 := h.size
  rw [h3] at h1
  exact ⟨h1, h2, Nat.le_trans (List.length_filter_le ..) (Nat.le_of_eq h3)⟩
theorem ends_in {x : Str} (h : TextOk x) : 0 ≤ endsF x ∧ endsF x ≤ 6 := by
  rw [ends_is h]
  have := (facts3 h).1
  omega

section
variable {prog : Program} {w : World} {A : Around} {E : Value → Shared → Prop} {s : Shared} {x : Str} {t u v : Tok} {Q : Value → Shared → Prop}
theorem join_text {ys : List Value} {l : List Int} {D : Addr} (hc : CarriedAll ys (l.map fun k => PyData.str (Txt.item (Str.ofString "\r\n.a") (k.fmod 4)))) (hl : s.heap.IsList D ys.toArray) (hn : l.length = 6)
    (h : ∀ x t' k, s.toks ≤ k → TextOk x → x.cps.size ≤ 12 → x.cps.size ≤ 100 → Q (.str x t') { s with toks := k }) : wpAny (model prog w) A (call (.builtin "str.join") [.str (Str.ofString "") t, .ref D]) Q E s :=
  any_toks <| KT.join_1 hl hc (fun a _ => by obtain ⟨c, _, e⟩ := item_ok a; rw [e]; rfl) (by omega) fun t' k _ hle => h _ t' k hle (text_ok hn) (by rw [(text_ok hn).size]; decide) (by rw [(text_ok hn).size]; decide)
theorem rep1_K (hT : TextOk x) (hu : u ≠ 0) (hv : v ≠ 0) (huv : u ≠ v) (h : ∀ t' k, s.toks ≤ k → Q (.str (Txt.replace x (Str.ofString "\r\n") (Str.ofString "\n")) t') { s with toks := k }) :
    wpAny (model prog w) A (call (.builtin "str.replace") [.str x t, .str (Str.ofString "\r\n") u, .str (Str.ofString "\n") v]) Q E s :=
  any_toks <| SC.replaceW hu hv huv (by decide +kernel) (by have := hT.size; show x.cps.size ≤ _; omega) (by decide +kernel) (fun t' k hle => h t' k hle)
theorem rep2_K (hT : TextOk x) (hu : u ≠ 0) (hv : v ≠ 0) (huv : u ≠ v) (h : ∀ t' k, s.toks ≤ k → Q (.str (Txt.replace (Txt.replace x (Str.ofString "\r\n") (Str.ofString "\n")) (Str.ofString "\r") (Str.ofString "\n")) t') { s with toks := k }) :
    wpAny (model prog w) A (call (.builtin "str.replace") [.str (Txt.replace x (Str.ofString "\r\n") (Str.ofString "\n")) t, .str (Str.ofString "\r") u, .str (Str.ofString "\n") v]) Q E s :=
  any_toks <| SC.replaceW hu hv huv (by decide +kernel) (Nat.le_trans (crlf_len hT) (by decide)) (by decide +kernel) (fun t' k hle => h t' k hle)
theorem rep3_K (hT : TextOk x) (hu : u ≠ 0) (hv : v ≠ 0) (huv : u ≠ v) (h : ∀ t' k, s.toks ≤ k → Q (.str (fixF x) t') { s with toks := k }) :
    wpAny (model prog w) A (call (.builtin "str.replace") [.str (Txt.replace (Txt.replace x (Str.ofString "\r\n") (Str.ofString "\n")) (Str.ofString "\r") (Str.ofString "\n")) t, .str (Str.ofString "\n") u, .str (Str.ofString "\r\n") v]) Q E s :=
  any_toks <| SC.replaceW hu hv huv (by decide +kernel) (Nat.le_trans (rep2_len hT) (by decide)) (by decide +kernel) (by rw [rep3_is hT]; exact fun t' k hle => h t' k hle)
theorem ne_same (h : Q (.bool false) s) : wpAny (model prog w) A (compareOp .NotEq (.str x t) (.str x u)) Q E s := ne_str (by simpa using h)
theorem count_K (h : Q (.int (endsF x) s.toks) { s with toks := s.toks + 1 }) : wpAny (model prog w) A (call (.builtin "str.count") [.str (fixF x) t, .str (Str.ofString "\n") u]) Q E s := SC.count h
end

theorem ways_use {w : World} {mean : ExcName → Option Value} {mg mb : Str → Option Value} {z : Str} {m : Int} {t1 t2 : Tok} {D : Addr} {o : Obj} {kvs : List (Int × Value)}
    {dp un : Nat} {gd : Option (List Code)} {cn : Str} {cs : Scope} {a : Addr} {ccd : Value} {cl : List (Str × Addr)} {outer : List Env} {A₀ : Around} {base h₀ : Heap} {L : Addr} {mm : Str → Option Value} {news : List (Addr × Obj)} {s : Shared} {Q E : Value → Shared → Prop}
    (N : News h₀ L s.heap news) (hmem : (D, o) ∈ news) (hm : 3 ≤ m ∧ m ≤ 6) (hz : z.cps.size ≤ 12) (ho : o.IsDictOf (PySem.intKind prog w) kvs) (hf : FlatPairs PyData.int kvs (kdfD (laid (modM m) (rangeKs (1 - m) (3 * m - 2).toNat)))) (lo : (D == sysModules) = false)
    (B : Below A₀ base outer h₀) (F : Fr h₀ L s.heap mm) (X : (KK w).In h₀) (T : Top hd.view_39 loose0 mean mg mb h₀) (hk : cs.kind = .function) (hd : dp + 12 < recursionLimit) (hu : un + 8 * 12 < cLine)
    (ret : ∀ t h' tk', Fr h₀ L h' mm → News h₀ L h' news → Q (.int (waysS m (codes z)) t) { s with heap := h', toks := tk' }) :
    wpAny (model prog w) (ktrTop dp un gd cn cs L a ccd cl outer) (call (.ref 105) [.str z t1, .int m t2, .ref D]) Q E s :=
  ways_says w mean mg mb z m t1 t2 D o kvs hm hz ho hf news lo dp un gd cn cs a ccd cl outer A₀ base h₀ L mm s Q E B F X (fun p hp => by
    cases hp with
    | head => exact N _ hmem
    | tail _ h => exact N p h) T hk hd hu fun t h' tk' F' N' => ret t h' tk' F' (news_drop N')

theorem comp_endT {h₀ : Heap} {L I C D : Addr} {m : Str → Option Value} {s₁ : Shared} {oI oC oD : Obj} {S : List (Addr × Obj) → Prop} {news : List (Addr × Obj)} {r : Str} {y : Value} {t : Tok} {h' : Heap} {tk : Nat}
    (F : Fr h₀ L h' m) (N : News h₀ L h' ((I, oI) :: (C, oC) :: (D, oD) :: news)) (off : LCg.Off3 I C D news) (hS : S news) (hy : y = .str r t) :
    LCg.CompEnd h₀ L m s₁ I oI C oC D oD S (fun y n => KCtEl news r y n) y { s₁ with heap := h', toks := tk } :=
  LCg.CompEnd.intro F N news (fun p hp => hp) off hS ⟨rfl, t, hy⟩
theorem gcdN_dvd : ∀ (n : Nat) (a b : Int), b.natAbs ≤ n → gcdN n a b ∣ a ∧ gcdN n a b ∣ b
  | 0, a, b, h => by
    have : b = 0 := by omega
    subst this
    exact ⟨Int.dvd_refl a, Int.dvd_zero a⟩
  | n + 1, a, b, h => by
    by_cases hb : b = 0
    · subst hb
      exact ⟨Int.dvd_refl a, Int.dvd_zero a⟩
    · have e : gcdN (n + 1) a b = gcdN n b (a.fmod b) := by
        show (if b = 0 then a else gcdN n b (a.fmod b)) = _
        rw [if_neg hb]
      have hs := fmod_small a b hb
      obtain ⟨h1, h2⟩ := gcdN_dvd n b (a.fmod b) (by omega)
      rw [e]
      refine ⟨?_, h1⟩
      have e2 : a = a.fmod b + b * a.fdiv b := (Int.fmod_add_mul_fdiv a b).symm
      rw [e2]
      have e3 : (a.fmod b + b * a.fdiv b).fmod b = a.fmod b := by rw [← e2]
      rw [e3]
      exact Int.dvd_add h2 (Int.dvd_trans h1 (Int.dvd_mul_right b _))
theorem gcd_le {m : Int} (hm : 3 ≤ m ∧ m ≤ 6) (x : Int) : -6 ≤ gcdI m x ∧ gcdI m x ≤ 6 := by
  have h := (gcdN_dvd x.natAbs m x (Nat.le_refl _)).1
  have h2 : (gcdI m x).natAbs ∣ m.natAbs := Int.natAbs_dvd_natAbs.mpr h
  have h3 := Nat.le_of_dvd (by omega) h2
  omega
section
variable {prog : Program} {w : World} {A : Around} {E : Value → Shared → Prop} {s : Shared} {t u : Tok} {Q : Value → Shared → Prop}
theorem mul_g {m x y : Int} (hm : 3 ≤ m ∧ m ≤ 6) (h : Q (.int (gcdI m x * y) s.toks) { s with toks := s.toks + 1 }) : wpAny (model prog w) A (binaryOp .Mult (.int (gcdI m x) t) (.int y u)) Q E s :=
  mul_int h (IntMulOk.of_left (intBits_le_64 (by have := gcd_le hm x; omega) (by have := gcd_le hm x; omega)))
theorem pow_g {m x : Int} (hm : 3 ≤ m ∧ m ≤ 6) (h : Q (.int (gcdI m x ^ Int.toNat 2) s.toks) { s with toks := s.toks + 1 }) : wpAny (model prog w) A (binaryOp .Pow (.int (gcdI m x) t) (.int 2 u)) Q E s :=
  pow_int_small (by decide) (by decide) (by have := gcd_le hm x; omega) h
end
/-- the matrix that a text turns -/
def stepP (x : Int × Int × Int × Int) (c : Int) : Int × Int × Int × Int :=
  if c = 13 then (x.1, x.2.1, x.2.2.1 + x.1, x.2.2.2 + x.2.1) else if c = 10 then (x.1 + x.2.2.1, x.2.1 + x.2.2.2, x.2.2.1, x.2.2.2) else x
def nmP (x : Int × Int × Int × Int) : List (Str × Int) := [(Str.ofString "p", x.1), (Str.ofString "q", x.2.1), (Str.ofString "r", x.2.2.1), (Str.ofString "s", x.2.2.2)]
def runP (z : List Int) : Int × Int × Int × Int := z.foldl stepP (1, 0, 0, 1)
def stepF (x : Int × Int) (_ : Int) : Int × Int := (x.2, x.1 + x.2)
def nmF (x : Int × Int) : List (Str × Int) := [(Str.ofString "f", x.1), (Str.ofString "g", x.2)]
def runF (b : Int) : Int × Int := (rangeKs 0 b.toNat).foldl stepF (0, 1)
section
variable {prog : Program} {w : World} {A : Around} {E : Value → Shared → Prop} {s : Shared} {env : Env} {h₀ : Heap} {body : List Stmt} {Q : Flow → Shared → Prop}
theorem mat_iter {z : Str} {tz : Tok} {ta tb tc td : Tok} {m₀ : Str → Option Value} {kp : List (Addr × Obj)}
    (hh : A.handled = none) (F : Fr h₀ env.locals s.heap m₀) (N : News h₀ env.locals s.heap kp) (ha : m₀ (Str.ofString "p") = some (.int 1 ta)) (hb : m₀ (Str.ofString "q") = some (.int 0 tb)) (hc : m₀ (Str.ofString "r") = some (.int 0 tc)) (hd : m₀ (Str.ofString "s") = some (.int 1 td))
    (turn : ∀ (a b c d : Int) (tf : Str → Tok) (n : Nat) t (u : Str → Option Value) h tk own,
      Fr h₀ env.locals h (fun y => if y = Str.ofString "sign" then some (.str ⟨#[n]⟩ t) else if y = Str.ofString "p" then some (.int a (tf (Str.ofString "p"))) else if y = Str.ofString "q" then some (.int b (tf (Str.ofString "q"))) else if y = Str.ofString "r" then some (.int c (tf (Str.ofString "r"))) else if y = Str.ofString "s" then some (.int d (tf (Str.ofString "s"))) else m₀ y) → News h₀ env.locals h (kp ++ own) →
      wpAny (model prog w) A (execs body env) (ItPost nmP h₀ env.locals (Str.ofString "sign") [] m₀ (kp ++ own) (stepP (a, b, c, d) n) { s with heap := h, toks := tk } Q) E { s with heap := h, toks := tk })
    (done : ∀ (tf : Str → Tok) (u : Str → Option Value) h tk, Fr h₀ env.locals h (fun y => if y = Str.ofString "sign" then u y else if y = Str.ofString "p" then some (.int (runP (codes z)).1 (tf (Str.ofString "p"))) else if y = Str.ofString "q" then some (.int (runP (codes z)).2.1 (tf (Str.ofString "q"))) else if y = Str.ofString "r" then some (.int (runP (codes z)).2.2.1 (tf (Str.ofString "r"))) else if y = Str.ofString "s" then some (.int (runP (codes z)).2.2.2 (tf (Str.ofString "s"))) else m₀ y) → News h₀ env.locals h kp → Q .next { s with heap := h, toks := tk }) :
    wpAny (model prog w) A (pyIter (.str z tz)) (fun it s₂ => LoopAtV prog w A h₀ env (Str.ofString "sign") body Q E it s₂) E s :=
  txt_iter nmP stepP (1, 0, 0, 1) (fun _ => True) [] hh F N (fun p hp => by
      cases hp with
      | head => exact ⟨ta, ha⟩
      | tail _ hp => cases hp with
        | head => exact ⟨tb, hb⟩
        | tail _ hp => cases hp with
          | head => exact ⟨tc, hc⟩
          | tail _ hp => cases hp with
            | head => exact ⟨td, hd⟩
            | tail _ hp => exact nomatch hp)
    trivial (fun x n _ h => trivial)
    (fun x tf n t u h tk own _ hx F₁ N₁ => turn x.1 x.2.1 x.2.2.1 x.2.2.2 tf n t u h tk own F₁ N₁) (fun tf u h tk _ F₁ N₁ => done tf u h tk F₁ N₁)
theorem small_ends {b : Int} (h : 0 ≤ b ∧ b ≤ 6) : Builtin.Range.small 0 b 1 = true := by
  have h : b = 0 ∨ b = 1 ∨ b = 2 ∨ b = 3 ∨ b = 4 ∨ b = 5 ∨ b = 6 := by omega
  rcases h with rfl | rfl | rfl | rfl | rfl | rfl | rfl <;> decide
theorem fib_iter {b : Int} {r : Addr} {t₀ u₀ v₀ : Tok} {ta tb : Tok} {m₀ : Str → Option Value} {kp : List (Addr × Obj)} (hb : 0 ≤ b ∧ b ≤ 6)
    (hh : A.handled = none) (hr : IsRange s.heap r 0 b 1 t₀ u₀ v₀) (F : Fr h₀ env.locals s.heap m₀) (N : News h₀ env.locals s.heap kp) (hf : m₀ (Str.ofString "f") = some (.int 0 ta)) (hg : m₀ (Str.ofString "g") = some (.int 1 tb))
    (turn : ∀ (a c : Int) (tf : Str → Tok) (n : Int) t (u : Str → Option Value) h tk own,
      Fr h₀ env.locals h (fun y => if y = Str.ofString "step" then some (.int n t) else if y = Str.ofString "f" then some (.int a (tf (Str.ofString "f"))) else if y = Str.ofString "g" then some (.int c (tf (Str.ofString "g"))) else m₀ y) → News h₀ env.locals h (kp ++ own) →
      wpAny (model prog w) A (execs body env) (ItPost nmF h₀ env.locals (Str.ofString "step") [] m₀ (kp ++ own) (c, a + c) { s with heap := h, toks := tk } Q) E { s with heap := h, toks := tk })
    (done : ∀ (tf : Str → Tok) (u : Str → Option Value) h tk, Fr h₀ env.locals h (fun y => if y = Str.ofString "step" then u y else if y = Str.ofString "f" then some (.int (runF b).1 (tf (Str.ofString "f"))) else if y = Str.ofString "g" then some (.int (runF b).2 (tf (Str.ofString "g"))) else m₀ y) → News h₀ env.locals h kp → Q .next { s with heap := h, toks := tk }) :
    wpAny (model prog w) A (pyIter (.ref r)) (fun it s₂ => LoopAtV prog w A h₀ env (Str.ofString "step") body Q E it s₂) E s :=
  rng_iter nmF stepF (0, 1) (fun _ => True) [] hh hr (small_ends hb) F N (fun p hp => by
      cases hp with
      | head => exact ⟨ta, hf⟩
      | tail _ hp => cases hp with
        | head => exact ⟨tb, hg⟩
        | tail _ hp => exact nomatch hp) trivial (fun _ _ _ _ _ => trivial)
    (fun x tf n t u h tk own b0 b1 _ F₁ N₁ => turn x.1 x.2 tf n t u h tk own F₁ N₁) (fun tf u h tk _ F₁ N₁ => done tf u h tk F₁ N₁)
end
theorem stepP_cr {a b c d : Int} {n : Nat} (h : ((⟨#[n]⟩ : Str) == Str.ofString "\r") = true) : stepP (a, b, c, d) (n : Int) = (a, b, c + a, d + b) := by
  have e := sign_yes cr_is h
  subst e
  rfl
theorem stepP_lf {a b c d : Int} {n : Nat} (h : ((⟨#[n]⟩ : Str) == Str.ofString "\n") = true) : stepP (a, b, c, d) (n : Int) = (a + c, b + d, c, d) := by
  have e := sign_yes lf_is h
  subst e
  rfl
theorem stepP_no {a b c d : Int} {n : Nat} (h1 : ((⟨#[n]⟩ : Str) == Str.ofString "\r") = false) (h2 : ((⟨#[n]⟩ : Str) == Str.ofString "\n") = false) : stepP (a, b, c, d) (n : Int) = (a, b, c, d) := by
  have e1 := sign_no cr_is h1
  have e2 := sign_no lf_is h2
  unfold stepP
  rw [if_neg (by omega), if_neg (by omega)]
section
variable {h₀ : Heap} {L : Addr} {stored : List Str} {m₀ m' : Str → Option Value} {led : List (Addr × Obj)} {s : Shared} {Q : Flow → Shared → Prop} {h' : Heap} {tk' : Nat}
theorem it_endP {x : Int × Int × Int × Int} (F : Fr h₀ L h' m') (N : News h₀ L h' led) (ha : ∃ t, m' (Str.ofString "p") = some (.int x.1 t)) (hb : ∃ t, m' (Str.ofString "q") = some (.int x.2.1 t)) (hc : ∃ t, m' (Str.ofString "r") = some (.int x.2.2.1 t)) (hd : ∃ t, m' (Str.ofString "s") = some (.int x.2.2.2 t))
    (e : ∀ z, z ≠ Str.ofString "sign" → z ≠ Str.ofString "p" → z ≠ Str.ofString "q" → z ≠ Str.ofString "r" → z ≠ Str.ofString "s" → m' z = m₀ z) : ItPost nmP h₀ L (Str.ofString "sign") stored m₀ led x s Q .next { s with heap := h', toks := tk' } :=
  it_end F N (fun p hp => by
    cases hp with
    | head => exact ha
    | tail _ hp => cases hp with
      | head => exact hb
      | tail _ hp => cases hp with
        | head => exact hc
        | tail _ hp => cases hp with
          | head => exact hd
          | tail _ hp => exact nomatch hp) (fun z h1 h2 _ => e z h1 (h2 _ (.head _)) (h2 _ (.tail _ (.head _))) (h2 _ (.tail _ (.tail _ (.head _)))) (h2 _ (.tail _ (.tail _ (.tail _ (.head _))))))
theorem it_endF {x : Int × Int} (F : Fr h₀ L h' m') (N : News h₀ L h' led) (ha : ∃ t, m' (Str.ofString "f") = some (.int x.1 t)) (hb : ∃ t, m' (Str.ofString "g") = some (.int x.2 t))
    (e : ∀ z, z ≠ Str.ofString "step" → z ≠ Str.ofString "f" → z ≠ Str.ofString "g" → m' z = m₀ z) : ItPost nmF h₀ L (Str.ofString "step") stored m₀ led x s Q .next { s with heap := h', toks := tk' } :=
  it_end F N (fun p hp => by
    cases hp with
    | head => exact ha
    | tail _ hp => cases hp with
      | head => exact hb
      | tail _ hp => exact nomatch hp) (fun z h1 h2 _ => e z h1 (h2 _ (.head _)) (h2 _ (.tail _ (.head _))))
end

end
end Mine

namespace Mine
section
open PySem PySem.W PyProof.Rows PySem.Calls PySem.Spec PyProof.V PySem.W.KStt
set_option maxRecDepth 100000
def cod (l : List Nat) : List Int := l.map fun (c : Nat) => (c : Int)
theorem fold_ends {X : Type} (f : X → Int → X) (hf : ∀ x (n : Nat), isEnd n = false → f x (n : Int) = x) : ∀ (l : List Nat) (x : X), (cod l).foldl f x = (cod (l.filter isEnd)).foldl f x
  | [], _ => rfl
  | n :: l, x => by
    have ih := fold_ends f hf l
    cases h : isEnd n with
    | true =>
      rw [List.filter_cons_of_pos h]
      exact ih (f x n)
    | false =>
      rw [List.filter_cons_of_neg (by simp [h])]
      show (cod l).foldl f (f x n) = _
      rw [hf x n h]
      exact ih x
theorem isEnd_no {n : Nat} (h : isEnd n = false) : n ≠ 13 ∧ n ≠ 10 := by
  unfold isEnd at h
  simpa [Bool.or_eq_false_iff] using h
theorem runS_ends (m mid right : Int) (l : List Nat) : runS m (cod l) mid right = runS m (cod (l.filter isEnd)) mid right :=
  fold_ends (stepS m) (fun x n h => by
    have := isEnd_no h
    unfold stepS
    rw [if_neg (by omega), if_neg (by omega)]) l _
theorem runP_ends (l : List Nat) : runP (cod l) = runP (cod (l.filter isEnd)) :=
  fold_ends stepP (fun x n h => by
    have := isEnd_no h
    unfold stepP
    rw [if_neg (by omega), if_neg (by omega)]) l _
theorem ways_ends (m : Int) (l : List Nat) : waysS m (cod l) = waysS m (cod (l.filter isEnd)) := by
  have h1 : rowS m (cod l) = rowS m (cod (l.filter isEnd)) := by
    funext mid ways right
    unfold rowS
    rw [runS_ends]
  have h2 : allS m (cod l) = allS m (cod (l.filter isEnd)) := by
    funext ways mid
    unfold allS
    rw [h1]
  unfold waysS
  rw [h2]
def matD (x : Int × Int × Int × Int) : Int := gcdI (gcdI (x.1 - 1) x.2.1) (gcdI x.2.2.1 (x.2.2.2 - 1))
def lawA (m : Int) (w : List Nat) : Bool :=
  let x := runP (cod w)
  let d := matD x
  waysS m (cod w) == gcdI m d * gcdI m (if d = 0 then 0 else (x.1 + x.2.2.2 - 2).fdiv d)
def lawS (m : Int) (e : Nat) : Bool :=
  let x := runF e
  waysS m (cod (rf e)) == if (e : Int).fmod 2 = 0 then gcdI m x.1 * gcdI m (5 * x.1) else gcdI m (2 * x.2 - x.1) ^ 2
def words : Nat → List (List Nat)
  | 0 => [[]]
  | n + 1 => [] :: ((words n).flatMap fun w => [13 :: w, 10 :: w])
theorem words_mem : ∀ (n : Nat) (w : List Nat), w.length ≤ n → (∀ k ∈ w, isEnd k = true) → w ∈ words n
  | 0, [], _, _ => .head _
  | 0, _ :: _, h, _ => absurd h (by simp)
  | n + 1, [], _, _ => .head _
  | n + 1, k :: w, h, hk => by
    have ih := words_mem n w (by simpa using h) fun j hj => hk j (.tail _ hj)
    have h1 := hk k (.head _)
    unfold isEnd at h1
    rw [Bool.or_eq_true, beq_iff_eq, beq_iff_eq] at h1
    refine .tail _ (List.mem_flatMap.mpr ⟨w, ih, ?_⟩)
    rcases h1 with rfl | rfl
    · exact .head _
    · exact .tail _ (.head _)
theorem lawS_3 : ([0, 1, 2, 3, 4, 5, 6].all fun e => lawS 3 e && lawS 4 e && lawS 5 e && lawS 6 e) = true := by decide +kernel
theorem lawA_3 : ((words 6).all (lawA 3)) = true := by decide +kernel
theorem lawA_4 : ((words 6).all (lawA 4)) = true := by decide +kernel
theorem lawA_5 : ((words 6).all (lawA 5)) = true := by decide +kernel
theorem lawA_6 : ((words 6).all (lawA 6)) = true := by decide +kernel

end
end Mine

namespace Mine
section
open PySem PySem.W PyProof.Rows PySem.Calls PySem.Spec PyProof.V PySem.W.KStt
set_option maxRecDepth 100000
theorem law_text {x : Str} {m : Int} (h : TextOk x) (hm : 3 ≤ m ∧ m ≤ 6) : waysS m (codes x) = gcdI m (matD (runP (codes x))) * gcdI m (if matD (runP (codes x)) = 0 then 0 else ((runP (codes x)).1 + (runP (codes x)).2.2.2 - 2).fdiv (matD (runP (codes x)))) := by
  show waysS m (cod x.cps.toList) = gcdI m (matD (runP (cod x.cps.toList))) * gcdI m (if matD (runP (cod x.cps.toList)) = 0 then 0 else ((runP (cod x.cps.toList)).1 + (runP (cod x.cps.toList)).2.2.2 - 2).fdiv (matD (runP (cod x.cps.toList))))
  rw [ways_ends, runP_ends]
  have hw : x.cps.toList.filter isEnd ∈ words 6 := words_mem 6 _ (facts3 h).2.2 fun k hk => (List.mem_filter.mp hk).2
  have h4 : m = 3 ∨ m = 4 ∨ m = 5 ∨ m = 6 := by omega
  have key : lawA m (x.cps.toList.filter isEnd) = true := by
    rcases h4 with rfl | rfl | rfl | rfl
    · exact List.all_eq_true.mp lawA_3 _ hw
    · exact List.all_eq_true.mp lawA_4 _ hw
    · exact List.all_eq_true.mp lawA_5 _ hw
    · exact List.all_eq_true.mp lawA_6 _ hw
  exact eq_of_beq key
theorem law_sent {x : Str} {m : Int} (h : TextOk x) (hm : 3 ≤ m ∧ m ≤ 6) : waysS m (codes (fixF x)) = if (endsF x).fmod 2 = 0 then gcdI m (runF (endsF x)).1 * gcdI m (5 * (runF (endsF x)).1) else gcdI m (2 * (runF (endsF x)).2 - (runF (endsF x)).1) ^ 2 := by
  obtain ⟨h1, h2, _⟩ := facts3 h
  rw [ends_is h, fix_is h]
  show waysS m (cod (fixL x.cps.toList)) = _
  rw [ways_ends, h2]
  generalize (fixL x.cps.toList).countP (· == 10) = e at h1
  have he : e ∈ [0, 1, 2, 3, 4, 5, 6] := by
    simp only [List.mem_cons, List.not_mem_nil, or_false]
    omega
  have h4 : m = 3 ∨ m = 4 ∨ m = 5 ∨ m = 6 := by omega
  have t := List.all_eq_true.mp lawS_3 e he
  simp only [Bool.and_eq_true] at t
  have key : lawS m e = true := by
    rcases h4 with rfl | rfl | rfl | rfl
    · exact t.1.1.1
    · exact t.1.1.2
    · exact t.1.2
    · exact t.2
  exact eq_of_beq key
section
variable {prog : Program} {w : World} {A : Around} {E : Value → Shared → Prop} {s : Shared} {t u : Tok} {Q : Value → Shared → Prop}
theorem ne_text1 {x : Str} {m D T : Int} (hT : TextOk x) (hm : 3 ≤ m ∧ m ≤ 6) (hd : D ≠ 0) (hD : matD (runP (codes x)) = D) (h1 : (runP (codes x)).1 + (runP (codes x)).2.2.2 - 2 = T) (h : Q (.bool false) s) :
    wpAny (model prog w) A (compareOp .NotEq (.int (waysS m (codes x)) t) (.int (gcdI m D * gcdI m (T.fdiv D)) u)) Q E s := by
  subst hD; subst h1
  have e := law_text hT hm
  rw [if_neg hd] at e
  refine ne_int ?_
  rw [e]
  rw [show ∀ a : Int, (a != a) = false from fun a => by simp]
  exact h
theorem ne_text0 {x : Str} {m D : Int} (hT : TextOk x) (hm : 3 ≤ m ∧ m ≤ 6) (hd : D = 0) (hD : matD (runP (codes x)) = D) (h : Q (.bool false) s) :
    wpAny (model prog w) A (compareOp .NotEq (.int (waysS m (codes x)) t) (.int (gcdI m D * gcdI m 0) u)) Q E s := by
  subst hD
  have e := law_text hT hm
  rw [if_pos hd] at e
  refine ne_int ?_
  rw [e]
  rw [show ∀ a : Int, (a != a) = false from fun a => by simp]
  exact h
theorem eq_sent1 {x : Str} {m : Int} (hT : TextOk x) (hm : 3 ≤ m ∧ m ≤ 6) (hd : (endsF x).fmod 2 ≠ 0) (h : Q (.bool true) s) :
    wpAny (model prog w) A (compareOp .Eq (.int (waysS m (codes (fixF x))) t) (.int (gcdI m (2 * (runF (endsF x)).2 - (runF (endsF x)).1) ^ Int.toNat 2) u)) Q E s := by
  have e := law_sent hT hm
  rw [if_neg hd] at e
  refine eq_int ?_
  rw [e]
  show Q (.bool (gcdI m (2 * (runF (endsF x)).2 - (runF (endsF x)).1) ^ 2 == gcdI m (2 * (runF (endsF x)).2 - (runF (endsF x)).1) ^ 2)) s
  rw [show ∀ a : Int, (a == a) = true from fun a => by simp]
  exact h
theorem eq_sent0 {x : Str} {m : Int} (hT : TextOk x) (hm : 3 ≤ m ∧ m ≤ 6) (hd : (endsF x).fmod 2 = 0) (h : Q (.bool true) s) :
    wpAny (model prog w) A (compareOp .Eq (.int (waysS m (codes (fixF x))) t) (.int (gcdI m (runF (endsF x)).1 * gcdI m (5 * (runF (endsF x)).1)) u)) Q E s := by
  have e := law_sent hT hm
  rw [if_pos hd] at e
  refine eq_int ?_
  rw [e]
  rw [show ∀ a : Int, (a == a) = true from fun a => by simp]
  exact h
end

end
end Mine

section
open PySem PySem.W PyProof.Rows PySem.Calls PySem.Spec PyProof.V PySem.W.KStt Mine
set_option maxRecDepth 100000
local macro_rules | `(tactic| walk_at "CompSrc") => `(tactic| (k_here; (with_reducible show LCg.CompSrc _ _ _ _ _ _ _ (Expr.Subscript _ _ _) _ _ _ _ _ _); (try kcf_lens); k_dflt (refine LCg.CompSrc.ledger (by rfl) (by k_asm) (by k_asm) (by k_mem) (by kcf_size) ?_; intro g'; (refine' kct_list (fun k => Txt.item (Str.ofString "\r\n.a") (k.fmod 4)) (by first | assumption | l_ints) (fun k' t' I' oI' C' oC' D' m' ys' h' tk' E' hk' hC' hx' F' N' off' ne' => ?_) ?_); (all_goals (try (simp only [LCg.Off3, and_true] at off'))); (all_goals (try ((show KPfMark → _); intro hMark'))); kcf_last)))
local macro_rules | `(tactic| walk_at "CompEnd") => `(tactic| ((with_reducible show LCg.CompEnd _ _ _ _ _ _ _ _ _ _ _ (fun y n => KCtEl _ _ y n) _ _); k_dflt (refine' comp_endT ?ca ?cb ?co ?ch rfl; (case ca => with_reducible assumption); (case cb => with_reducible assumption); (case co => (simp only [LCg.Off3, and_true]; with_reducible assumption)); (case ch => first | exact Or.inr ⟨_, by k_mem, rfl, _, rfl⟩ | lcg_src))))
local macro_rules | `(tactic| walk_at "call builtin:str.join") => `(tactic| (k_here; (with_reducible rename CarriedAll _ (List.map _ _) => ktC); k_dflt (refine' join_text ktC ?kl ?kn ?_; (case kl => first | assumption | is_list | exact News.isList (by k_asm) (by k_mem)); (case kn => exact take_len' _)); k_whole; intro x9 t9 tk9 hle9 hT9 hs9 hq9; (try dsimp only at hle9); (try dsimp only); (try k_fold)))
local macro_rules | `(tactic| walk_at "execs cons") => `(tactic| (k_here; first | (exfalso; contradiction) | ((with_reducible rename TextOk _ => hT0); (refine' execs_pos ?kx ?_); (case kx => first | assumption | omega | (simp only [List.length_cons, List.length_nil]; omega)); k_whole; (try dsimp only); (try k_fold))))
local macro_rules | `(tactic| walk_at "forall") => `(tactic| (k_here; (refine' arrow_pos ?_); k_whole; intro tk9 htk9; (try dsimp only)))
local macro_rules | `(tactic| walk_at "call builtin:str.replace") => `(tactic| (k_here; (first
  | (with_reducible refine' rep1_K ?kt ?ka ?kb ?kc ?_; (case kt => with_reducible assumption); (case ka => (show @Ne Nat _ _); omega); (case kb => (show @Ne Nat _ _); omega); (case kc => (show @Ne Nat _ _); omega))
  | (with_reducible refine' rep2_K ?kt ?ka ?kb ?kc ?_; (case kt => with_reducible assumption); (case ka => (show @Ne Nat _ _); omega); (case kb => (show @Ne Nat _ _); omega); (case kc => (show @Ne Nat _ _); omega))
  | (with_reducible refine' rep3_K ?kt ?ka ?kb ?kc ?_; (case kt => with_reducible assumption); (case ka => (show @Ne Nat _ _); omega); (case kb => (show @Ne Nat _ _); omega); (case kc => (show @Ne Nat _ _); omega))); k_whole; intro t9 tk9 hle9; (try dsimp only at hle9); (try dsimp only); (try k_fold)))
local macro_rules | `(tactic| walk_at "compareOp NotEq str str") => `(tactic| (k_here; (with_reducible refine' ne_same ?_); k_whole))
local macro_rules | `(tactic| walk_at "call builtin:str.count") => `(tactic| (k_here; (with_reducible refine' count_K ?_); k_whole; (try dsimp only); (try k_fold)))
local macro_rules | `(tactic| walk_at "call ref") => `(tactic| (k_here; first
  | ((with_reducible show wpAny _ _ (PySem.call (Value.ref 43) _) _ _ _); with_unfolding_all refine' fix_use ?kz ?k1 ?k2 ?k3 ?k4 ?k5 ?kK ?kd ?ku ?_; (case kz => assumption); (case k1 => k_asm); (case k2 => k_asm); (case k3 => k_asm); (case k4 => k_asm); (case k5 => k_asm); (case kK => first | exact rfl | assumption); (case kd => ktr_room); (case ku => ktr_units); intro t9 h9 tk9 F9 N9)
  | ((with_reducible show wpAny _ _ (PySem.call (Value.ref 84) _) _ _ _); with_unfolding_all refine' gcd_use ?k1 ?k2 ?k3 ?k4 ?k5 ?kK ?kd ?ku ?_; (case k1 => k_asm); (case k2 => k_asm); (case k3 => k_asm); (case k4 => k_asm); (case k5 => k_asm); (case kK => first | exact rfl | assumption); (case kd => ktr_room); (case ku => ktr_units); intro t9 h9 tk9 F9 N9)
  | ((with_reducible show wpAny _ _ (PySem.call (Value.ref 98) _) _ _ _); with_unfolding_all refine' mir_use ?km ?kt ?k1 ?k2 ?k3 ?k4 ?k5 ?kK ?kd ?ku ?_; (case km => exact m_in _); (case kt => exact sum_in _ (take_len _)); (case k1 => k_asm); (case k2 => k_asm); (case k3 => k_asm); (case k4 => k_asm); (case k5 => k_asm); (case kK => first | exact rfl | assumption); (case kd => ktr_room); (case ku => ktr_units); intro D9 o9 v9 h9 tk9 lo9 l9 d9 f9 F9 N9)
  | ((with_reducible show wpAny _ _ (PySem.call (Value.ref 105) _) _ _ _); with_unfolding_all refine' ways_use ?kN ?kM ?km ?kz ?ko ?kf ?kl ?k1 ?k2 ?k3 ?k5 ?kK ?kd ?ku ?_; (case kN => k_asm); (case km => exact m_in _); (case kM => k_mem); (case kz => first | assumption | exact fix_len (by assumption)); (case ko => assumption); (case kf => assumption); (case kl => assumption); (case k1 => k_asm); (case k2 => k_asm); (case k3 => k_asm); (case k5 => k_asm); (case kK => first | exact rfl | assumption); (case kd => ktr_room); (case ku => ktr_units); intro t9 h9 tk9 F9 N9)
  ; (try dsimp only); (try k_fold)))
local macro_rules | `(tactic| walk_at "binaryOp Mult int int") => `(tactic| (k_here; (with_reducible refine' mul_g ?km ?_); (case km => exact m_in _); k_whole; (try dsimp only); (try k_fold)))
local macro_rules | `(tactic| walk_at "binaryOp Pow int int") => `(tactic| (k_here; (with_reducible refine' pow_g ?km ?_); (case km => exact m_in _); k_whole; (try dsimp only); (try k_fold)))
local macro_rules | `(tactic| walk_at "compareOp NotEq int int") => `(tactic| (k_here; first
  | ((with_reducible refine' ne_text1 ?kt ?km ?kd ?kD ?kT ?_); (case kD => with_unfolding_all rfl); (case kT => with_unfolding_all rfl); (case kt => with_reducible assumption); (case km => exact m_in _); (case kd => with_reducible assumption); k_whole)
  | ((with_reducible refine' ne_text0 ?kt ?km ?kd ?kD ?_); (case kD => with_unfolding_all rfl); (case kt => with_reducible assumption); (case km => exact m_in _); (case kd => with_reducible assumption); k_whole)))
local macro_rules | `(tactic| walk_at "compareOp Eq int int") => `(tactic| (k_here; first
  | ((with_reducible refine' eq_sent1 ?kt ?km ?kd ?_); (case kt => with_reducible assumption); (case km => exact m_in _); (case kd => with_reducible assumption); k_whole)
  | ((with_reducible refine' eq_sent0 ?kt ?km ?kd ?_); (case kt => with_reducible assumption); (case km => exact m_in _); (case kd => with_reducible assumption); k_whole)))
local macro_rules | `(tactic| walk_at "pyIter str") => `(tactic| (k_here; k_dflt (
  refine' mat_iter rfl ?kF ?kN ?ka ?kb ?kc ?kd (held ?_) (held ?_); (case kF => assumption); (case kN => assumption); (case ka => with_unfolding_all rfl); (case kb => with_unfolding_all rfl); (case kc => with_unfolding_all rfl); (case kd => with_unfolding_all rfl))))
local macro_rules | `(tactic| walk_at "pyIter ref") => `(tactic| (k_here; k_dflt (
  refine' fib_iter ?km rfl ?kr ?kF ?kN ?ka ?kb (held ?_) (held ?_); (case km => exact ends_in (by assumption)); (case kr => assumption); (case kF => assumption); (case kN => assumption); (case ka => with_unfolding_all rfl); (case kb => with_unfolding_all rfl))))
local macro_rules | `(tactic| walk_at "subscriptTail") => `(tactic| (k_here; (with_reducible show wpAny _ _ (subscriptTail (PySem.Expr.BinOp _ _ _ _) _ _ _) _ _ _); k_dflt (refine kba_turn (value' := PySem.Expr.Name (PySem.Str.ofString "x") ⟨0, 0, 0, 0⟩) (fun _ => rfl) ?_)))
local macro_rules | `(tactic| walk_at "newTuple") => `(tactic| (k_here; k_dflt (refine' kup_newTuple ?kF ?kN ?_ ?kz; (case kF => k_asm); (case kN => k_asm); (case kz => kmk_size)); intro D' h' F' N' l1; (try k_lt l1); (try k_sweep)))
local macro_rules | `(tactic| walk_at "exec For Name Name cons nil") => `(tactic| (k_here; (rename Fr _ _ _ _ => lF'); (with_unfolding_all refine' For_invVF lF' ?k1 ?k2 ?_; (case k1 => exact rfl); (case k2 => exact rfl); k_whole)))
set_option maxHeartbeats 0 in
theorem PySem.Challenge.cw_xg0010_01_holds : PySem.Challenge.rw_xg0010_01.Holds :=
  hd (by
  w_strict (
    k_go0
    (all_goals try k_fold)
    k_steps
    · unfold Held
      intro a1 b1 c1 d1 tf2 sg t7 u7 h7 tk7 own7 F7 N7
      (try dsimp only [List.cons_append] at N7 ⊢)
      k_steps
      all_goals (first
        | (rename ((_ == Str.ofString "\r") = true) => q9; rw [stepP_cr q9])
        | (rename ((_ == Str.ofString "\n") = true) => q9; rw [stepP_lf q9])
        | (rename ((_ == Str.ofString "\n") = false) => q9; rename ((_ == Str.ofString "\r") = false) => q8; rw [stepP_no q8 q9]))
      all_goals (
        refine it_endP (by k_asm) (by k_dflt (first | assumption | exact news_drop (by assumption) | exact news_drop (news_drop (by assumption)) | exact news_drop (news_drop (news_drop (by assumption))))) ⟨_, by with_unfolding_all rfl⟩ ⟨_, by with_unfolding_all rfl⟩ ⟨_, by with_unfolding_all rfl⟩ ⟨_, by with_unfolding_all rfl⟩ ?_
        intro y h1 n1 n2 n3 n4
        simp only [n1, n2, n3, n4, h1, if_false])
    · unfold Held
      intro tf2 u7 h7 tk7 F7 N7
      (try dsimp only [List.cons_append] at N7 ⊢)
      k_steps
      · exfalso; contradiction
      · unfold Held
        intro a1 c1 tf3 n3 t8 u8 h8 tk8 own8 F8 N8
        (try dsimp only [List.cons_append] at N8 ⊢)
        k_steps
        all_goals (
          refine it_endF (by k_asm) (by k_dflt (first | assumption | exact news_drop (by assumption) | exact news_drop (news_drop (by assumption)) | exact news_drop (news_drop (news_drop (by assumption))))) ⟨_, by with_unfolding_all rfl⟩ ⟨_, by with_unfolding_all rfl⟩ ?_
          intro y h1 n1 n2
          simp only [n1, n2, h1, if_false])
      · unfold Held
        intro tf3 u8 h8 tk8 F8 N8
        (try dsimp only [List.cons_append] at N8 ⊢)
        k_steps
      · unfold Held
        intro a1 c1 tf3 n3 t8 u8 h8 tk8 own8 F8 N8
        (try dsimp only [List.cons_append] at N8 ⊢)
        k_steps
        all_goals (
          refine it_endF (by k_asm) (by k_dflt (first | assumption | exact news_drop (by assumption) | exact news_drop (news_drop (by assumption)) | exact news_drop (news_drop (news_drop (by assumption))))) ⟨_, by with_unfolding_all rfl⟩ ⟨_, by with_unfolding_all rfl⟩ ?_
          intro y h1 n1 n2
          simp only [n1, n2, h1, if_false])
      · unfold Held
        intro tf3 u8 h8 tk8 F8 N8
        (try dsimp only [List.cons_append] at N8 ⊢)
        k_steps))

end

