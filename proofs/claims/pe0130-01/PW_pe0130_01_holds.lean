import PyProof.Rows.All
import Wide.All
import OpenK.AllK
import Wide.FinOn
import Lean
import PySem.Challenge.RW_pe0130_01
set_option Elab.async false
section
open PySem PySem.W PyProof.Rows
namespace Mine
set_option maxRecDepth 100000 in
set_option maxHeartbeats 8000000 in
open_top hd for PySem.Challenge.rw_pe0130_01
end Mine
end
section
theorem Mine.fresh_M3 : True := by
  w_top off
  k_with_none
  trivial
open PySem PySem.W PyProof.Rows PySem.Calls PySem.Spec
namespace Mine
noncomputable def max3 (a b c : UInt64) : UInt64 :=
  let x := if Float64.cmp a b == some .lt then b else a
  if Float64.cmp x c == some .lt then c else x
noncomputable def min3 (a b c : UInt64) : UInt64 :=
  let x := if Float64.cmp b a == some .lt then b else a
  if Float64.cmp c x == some .lt then c else x

section
variable {prog : Program} {w : World} {A : Around} {E : Value → Shared → Prop} {s : Shared} {Q : Value → Shared → Prop} {a b c : UInt64} {t u v : Tok} {h₀ : Heap} {L : Addr} {m : Str → Option Value} {news : List (Addr × Obj)}
theorem max3_f (hh : A.handled = none) (F : Fr h₀ L s.heap m) (N : News h₀ L s.heap news)
    (h : ∀ h' tk y, Fr h₀ L h' m → News h₀ L h' news → Q (.float (max3 a b c) y) { s with heap := h', toks := tk }) :
    wpAny (model prog w) A (call (.builtin "max") [.float a t, .float b u, .float c v]) Q E s := by
  have hT : (s.heap.push { cls := .type "tuple", data := .seq #[.float a t, .float b u, .float c v] }).IsTuple s.heap.objs.size #[.float a t, .float b u, .float c v] := ⟨_, Heap.get?_push_size _ rfl, rfl, 0, rfl⟩
  refine call_max_three (wpAny_pyIter_tuple hT ?_)
  have hsz : (s.heap.push { cls := .type "tuple", data := .seq #[.float a t, .float b u, .float c v] }).objs.size = s.heap.objs.size + 1 := Heap.size_push ..
  refine ⟨_, [_, s.heap.objs.size], [_], _, _, _, _, rfl, Walks.tuple (A := A.in1) hh _ s.heap.objs.size (by rw [hsz]; exact Nat.ne_of_lt (Nat.lt_succ_self _)) #[.float a t, .float b u, .float c v],
    ⟨⟨_, Heap.get?_push_size _ rfl, rfl, rfl⟩, hT.push _⟩, fun d hd => ?_, by simp, PySem.Flt.cmpOf_gt #[.float a t, .float b u, .float c v] (by simp [PySem.Flt.NumV.float]), fun r h' tk hP hk => ?_⟩
  · show d < ((s.heap.push _).push _).objs.size
    rw [Heap.size_push, hsz]
    rcases List.mem_cons.mp hd with rfl | hd
    · rw [hsz]; exact Nat.lt_succ_self _
    · rcases List.mem_cons.mp hd with rfl | hd
      · exact Nat.lt_succ_of_lt (Nat.lt_succ_self _)
      · cases hd
  · have hold : ∀ d o, s.heap.get? d = some o → h'.get? d = some o := fun d o e => by
      refine hk d o (fun hm => ?_) (Heap.get?_push_of_some _ (Heap.get?_push_of_some _ e))
      rcases List.mem_cons.mp hm with e1 | hm
      · have := Heap.lt_size e; rw [e1, hsz] at this; exact Nat.lt_irrefl _ (Nat.lt_of_succ_lt this)
      · cases hm
    have key := fun y => h h' tk y (F.grownK hold) (N.grown hold)
    unfold max3 at key
    dsimp only at key
    cases h1 : Float64.cmp a b == some .lt
    · rw [h1] at key
      simp only [Bool.false_eq_true, if_false] at key
      cases h2 : Float64.cmp a c == some .lt
      · have e : r = .float a t := by
          simpa [argBest, PySem.Flt.ltV, h1, h2] using hP.symm
        rw [h2] at key
        simp only [Bool.false_eq_true, if_false] at key
        rw [e]; exact key t
      · have e : r = .float c v := by
          simpa [argBest, PySem.Flt.ltV, h1, h2] using hP.symm
        rw [h2] at key
        simp only [if_true] at key
        rw [e]; exact key v
    · rw [h1] at key
      simp only [if_true] at key
      cases h2 : Float64.cmp b c == some .lt
      · have e : r = .float b u := by
          simpa [argBest, PySem.Flt.ltV, h1, h2] using hP.symm
        rw [h2] at key
        simp only [Bool.false_eq_true, if_false] at key
        rw [e]; exact key u
      · have e : r = .float c v := by
          simpa [argBest, PySem.Flt.ltV, h1, h2] using hP.symm
        rw [h2] at key
        simp only [if_true] at key
        rw [e]; exact key v
theorem min3_f (hh : A.handled = none) (F : Fr h₀ L s.heap m) (N : News h₀ L s.heap news)
    (h : ∀ h' tk y, Fr h₀ L h' m → News h₀ L h' news → Q (.float (min3 a b c) y) { s with heap := h', toks := tk }) :
    wpAny (model prog w) A (call (.builtin "min") [.float a t, .float b u, .float c v]) Q E s := by
  have hT : (s.heap.push { cls := .type "tuple", data := .seq #[.float a t, .float b u, .float c v] }).IsTuple s.heap.objs.size #[.float a t, .float b u, .float c v] := ⟨_, Heap.get?_push_size _ rfl, rfl, 0, rfl⟩
  refine call_min_three (wpAny_pyIter_tuple hT ?_)
  have hsz : (s.heap.push { cls := .type "tuple", data := .seq #[.float a t, .float b u, .float c v] }).objs.size = s.heap.objs.size + 1 := Heap.size_push ..
  refine ⟨_, [_, s.heap.objs.size], [_], _, _, _, _, rfl, Walks.tuple (A := A.in1) hh _ s.heap.objs.size (by rw [hsz]; exact Nat.ne_of_lt (Nat.lt_succ_self _)) #[.float a t, .float b u, .float c v],
    ⟨⟨_, Heap.get?_push_size _ rfl, rfl, rfl⟩, hT.push _⟩, fun d hd => ?_, by simp, PySem.Flt.cmpOf_lt #[.float a t, .float b u, .float c v] (by simp [PySem.Flt.NumV.float]), fun r h' tk hP hk => ?_⟩
  · show d < ((s.heap.push _).push _).objs.size
    rw [Heap.size_push, hsz]
    rcases List.mem_cons.mp hd with rfl | hd
    · rw [hsz]; exact Nat.lt_succ_self _
    · rcases List.mem_cons.mp hd with rfl | hd
      · exact Nat.lt_succ_of_lt (Nat.lt_succ_self _)
      · cases hd
  · have hold : ∀ d o, s.heap.get? d = some o → h'.get? d = some o := fun d o e => by
      refine hk d o (fun hm => ?_) (Heap.get?_push_of_some _ (Heap.get?_push_of_some _ e))
      rcases List.mem_cons.mp hm with e1 | hm
      · have := Heap.lt_size e; rw [e1, hsz] at this; exact Nat.lt_irrefl _ (Nat.lt_of_succ_lt this)
      · cases hm
    have key := fun y => h h' tk y (F.grownK hold) (N.grown hold)
    unfold min3 at key
    dsimp only at key
    cases h1 : Float64.cmp b a == some .lt
    · rw [h1] at key
      simp only [Bool.false_eq_true, if_false] at key
      cases h2 : Float64.cmp c a == some .lt
      · have e : r = .float a t := by
          simpa [argBest, PySem.Flt.ltV, h1, h2] using hP.symm
        rw [h2] at key
        simp only [Bool.false_eq_true, if_false] at key
        rw [e]; exact key t
      · have e : r = .float c v := by
          simpa [argBest, PySem.Flt.ltV, h1, h2] using hP.symm
        rw [h2] at key
        simp only [if_true] at key
        rw [e]; exact key v
    · rw [h1] at key
      simp only [if_true] at key
      cases h2 : Float64.cmp c b == some .lt
      · have e : r = .float b u := by
          simpa [argBest, PySem.Flt.ltV, h1, h2] using hP.symm
        rw [h2] at key
        simp only [Bool.false_eq_true, if_false] at key
        rw [e]; exact key u
      · have e : r = .float c v := by
          simpa [argBest, PySem.Flt.ltV, h1, h2] using hP.symm
        rw [h2] at key
        simp only [if_true] at key
        rw [e]; exact key v
end
end Mine
end
section
theorem Mine.fresh_CFlt : True := by
  w_top off
  k_with_none
  trivial
open PySem PySem.W PyProof.Rows PySem.Calls PySem.Spec
namespace Mine
noncomputable abbrev Claim (D : Nat) (w : World) (f : Addr) (vs : List Value) (news : List (Addr × Obj)) (Ret : Heap → Addr → (Str → Option Value) → Shared → (Value → Shared → Prop) → Prop) : Prop :=
  ∀ (p : Program) (loose : List Str) (mean : ExcName → Option Value) (mg mb : Str → Option Value) (dp un : Nat) (gd : Option (List Code)) (cn : Str) (cs : Scope) (a : Addr) (ccd : Value) (cl : List (Str × Addr)) (outer : List Env) (A₀ : Around) (base h₀ : Heap) (L : Addr) (m : Str → Option Value) (s : Shared) (Q E : Value → Shared → Prop),
    Below A₀ base outer h₀ → Fr h₀ L s.heap m → (Mine.hd.heap_39 w.params).In h₀ → News h₀ L s.heap news → Top p loose mean mg mb h₀ → cs.kind = .function →
    dp + D < recursionLimit → un + 8 * D < cLine → Ret h₀ L m s Q →
      wpAny (model PySem.Challenge.rw_pe0130_01.row.prog w) (ktrTop dp un gd cn cs L a ccd cl outer) (call (.ref f) vs) Q E s

theorem Claim.use {D : Nat} {w : World} {f : Addr} {vs : List Value} {news : List (Addr × Obj)} {Ret : Heap → Addr → (Str → Option Value) → Shared → (Value → Shared → Prop) → Prop}
  {p : Program} {loose : List Str} {mean : ExcName → Option Value} {mg mb : Str → Option Value} {dp un : Nat} {gd : Option (List Code)} {cn : Str} {cs : Scope} {a : Addr} {ccd : Value} {cl : List (Str × Addr)} {outer : List Env} {A₀ : Around} {base h₀ : Heap} {L : Addr} {m : Str → Option Value} {s : Shared} {Q E : Value → Shared → Prop}
  (C : Claim D w f vs news Ret) (B : Below A₀ base outer h₀) (F : Fr h₀ L s.heap m) (X : (Mine.hd.heap_39 w.params).In h₀) (N : News h₀ L s.heap news) (T : Top p loose mean mg mb h₀) (hk : cs.kind = .function) (hd : dp + D < recursionLimit) (hu : un + 8 * D < cLine) (hr : Ret h₀ L m s Q) :
  wpAny (model PySem.Challenge.rw_pe0130_01.row.prog w) (ktrTop dp un gd cn cs L a ccd cl outer) (call (.ref f) vs) Q E s := C p loose mean mg mb dp un gd cn cs a ccd cl outer A₀ base h₀ L m s Q E B F X N T hk hd hu hr
noncomputable abbrev tupOf (vs : Array Value) : Obj := { cls := .type "tuple", data := .seq vs }

local macro_rules | `(tactic| walk_at "call builtin:max") => `(tactic| ((with_reducible show wpAny _ _ (call _ [Value.float _ _, Value.float _ _, Value.float _ _]) _ _ _); (rename News _ _ _ _ => N'); (rename Fr _ _ _ _ => F'); refine max3_f rfl F' N' ?_; clear N'; intro _ _ _ _ _))
local macro_rules | `(tactic| walk_at "call builtin:min") => `(tactic| ((with_reducible show wpAny _ _ (call _ [Value.float _ _, Value.float _ _, Value.float _ _]) _ _ _); (rename News _ _ _ _ => N'); (rename Fr _ _ _ _ => F'); refine min3_f rfl F' N' ?_; clear N'; intro _ _ _ _ _))

noncomputable def hsvT (H S V : UInt64) (i : Int) : UInt64 × UInt64 × UInt64 :=
  let f := Float64.sub (Float64.mul H 4618441417868443648) (Float64.ofInt i)
  let p := Float64.mul V (Float64.sub 4607182418800017408 S)
  let q := Float64.mul V (Float64.sub 4607182418800017408 (Float64.mul S f))
  let t := Float64.mul V (Float64.sub 4607182418800017408 (Float64.mul S (Float64.sub 4607182418800017408 f)))
  if i.fmod 6 = 0 then (V, t, p) else
  if i.fmod 6 = 1 then (q, V, p) else
  if i.fmod 6 = 2 then (p, V, t) else
  if i.fmod 6 = 3 then (p, q, V) else
  if i.fmod 6 = 4 then (t, p, V) else (V, p, q)

noncomputable abbrev RetRgb (news : List (Addr × Obj)) (c : UInt64 × UInt64 × UInt64) (h₀ : Heap) (L : Addr) (m : Str → Option Value) (s : Shared) (Q : Value → Shared → Prop) : Prop :=
  ∀ (a : Addr) (t u v : Tok) (h' : Heap) (tk' : Nat), Fr h₀ L h' m → News h₀ L h' ((a, tupOf #[.float c.1 t, .float c.2.1 u, .float c.2.2 v]) :: news) → (∀ p ∈ news, p.1 < a) → Q (.ref a) { s with heap := h', toks := tk' }

theorem nan_no {x : UInt64} (h : Float64.isFinite x = true) (h' : Float64.isNaN x = true) : False := by
  unfold Float64.isFinite at h
  unfold Float64.isNaN at h'
  cases e : Float64.decode x <;> rw [e] at h h' <;> simp at h h'
theorem inf_no {x : UInt64} (h : Float64.isFinite x = true) (h' : Float64.isInf x = true) : False := by
  unfold Float64.isFinite at h
  unfold Float64.isInf at h'
  cases e : Float64.decode x <;> rw [e] at h h' <;> simp at h h'
theorem big_no {x : Int} (h : x.natAbs < 1000) (h' : 2 ^ 1024 - 2 ^ 970 ≤ x.natAbs) : False := by
  have : (1000 : Nat) ≤ 2 ^ 1024 - 2 ^ 970 := by decide +kernel
  omega

theorem ret_rgb {news : List (Addr × Obj)} {c : UInt64 × UInt64 × UInt64} {h₀ h' : Heap} {L a : Addr} {m : Str → Option Value} {s : Shared} {Q : Value → Shared → Prop} {x y z : UInt64} {t u v : Tok} {tk' : Nat}
    (hret : RetRgb news c h₀ L m s Q) (F : Fr h₀ L h' m) (N : News h₀ L h' ((a, tupOf #[.float x t, .float y u, .float z v]) :: news)) (l : ∀ p ∈ news, p.1 < a) (e : c = (x, y, z)) : Q (.ref a) { s with heap := h', toks := tk' } := by
  subst e
  exact hret a t u v h' tk' F N l
theorem fmod6 (i : Int) (h0 : i.fmod 6 ≠ 0) (h1 : i.fmod 6 ≠ 1) (h2 : i.fmod 6 ≠ 2) (h3 : i.fmod 6 ≠ 3) (h4 : i.fmod 6 ≠ 4) (h5 : i.fmod 6 ≠ 5) : False := by
  have e := Int.fmod_nonneg_of_pos i (show (0 : Int) < 6 by decide)
  have l := Int.fmod_lt_of_pos i (show (0 : Int) < 6 by decide)
  generalize i.fmod 6 = x at *
  obtain ⟨n, rfl⟩ := Int.eq_ofNat_of_zero_le e
  clear e
  match n, l with
  | 0, _ => exact h0 rfl
  | 1, _ => exact h1 rfl
  | 2, _ => exact h2 rfl
  | 3, _ => exact h3 rfl
  | 4, _ => exact h4 rfl
  | 5, _ => exact h5 rfl
  | n + 6, l => exact absurd (Int.ofNat_lt.1 l) (Nat.not_lt_of_le (Nat.le_add_left 6 n))

set_option maxRecDepth 100000 in
set_option maxHeartbeats 8000000 in
theorem hsv_claim (w : World) (news : List (Addr × Obj)) (H S V : UInt64) (th ts tv : Tok)
    (hS : (Float64.cmp S 0 == some Ordering.eq) = false) (hfin : Float64.isFinite (Float64.mul H 4618441417868443648) = true) (hi : (Flt.toInt Float64.truncOf (Float64.mul H 4618441417868443648)).natAbs < 1000) :
    Claim 2 w 35 [.float H th, .float S ts, .float V tv] news (RetRgb news (hsvT H S V (Flt.toInt Float64.truncOf (Float64.mul H 4618441417868443648)))) := by
  unfold Claim
  k_fill
  intro p loose mean mg mb dp un gd cn cs a ccd cl outer A₀ base h₀ L m s Q E B F X N T hk hd hu hret
  refine wpAny_call ?_
  k_dflt cell_enter
  k_steps
  iterate 6
    · refine ret_rgb hret (by assumption) (by assumption) (by assumption) ?_
      unfold hsvT
      simp only [*, if_true, if_false]
      try rfl
  · exact (fmod6 _ (by assumption) (by assumption) (by assumption) (by assumption) (by assumption) (by assumption)).elim

noncomputable def hue3 (r g b : UInt64) : UInt64 :=
  let mx := max3 r g b
  let rg := Float64.sub mx (min3 r g b)
  let rc := Float64.div (Float64.sub mx r) rg
  let gc := Float64.div (Float64.sub mx g) rg
  let bc := Float64.div (Float64.sub mx b) rg
  (Float64.divmod (Float64.div (if Float64.cmp r mx == some Ordering.eq then Float64.sub bc gc else if Float64.cmp g mx == some Ordering.eq then Float64.sub (Float64.add 4611686018427387904 rc) bc else Float64.sub (Float64.add 4616189618054758400 gc) rc) 4618441417868443648) 4607182418800017408).2

noncomputable abbrev RetHue (news : List (Addr × Obj)) (c : UInt64) (h₀ : Heap) (L : Addr) (m : Str → Option Value) (s : Shared) (Q : Value → Shared → Prop) : Prop :=
  ∀ (a : Addr) (t : Tok) (u v : Value) (h' : Heap) (tk' : Nat), Fr h₀ L h' m → News h₀ L h' ((a, tupOf #[.float c t, u, v]) :: news) → (∀ p ∈ news, p.1 < a) → Q (.ref a) { s with heap := h', toks := tk' }
theorem ret_hue {news : List (Addr × Obj)} {c : UInt64} {h₀ h' : Heap} {L a : Addr} {m : Str → Option Value} {s : Shared} {Q : Value → Shared → Prop} {x : UInt64} {t : Tok} {u v : Value} {tk' : Nat}
    (hret : RetHue news c h₀ L m s Q) (F : Fr h₀ L h' m) (N : News h₀ L h' ((a, tupOf #[.float x t, u, v]) :: news)) (l : ∀ p ∈ news, p.1 < a) (e : c = x) : Q (.ref a) { s with heap := h', toks := tk' } := by
  subst e
  exact hret a t u v h' tk' F N l

set_option maxRecDepth 100000 in
set_option maxHeartbeats 8000000 in
theorem rgb_hsv_claim (w : World) (news : List (Addr × Obj)) (r g b : UInt64) (tr tg tb : Tok)
    (h1 : (Float64.cmp (min3 r g b) (max3 r g b) == some Ordering.eq) = false) (h2 : ¬ Float64.isZero (max3 r g b) = true) (h3 : ¬ Float64.isZero (Float64.sub (max3 r g b) (min3 r g b)) = true) :
    Claim 2 w 28 [.float r tr, .float g tg, .float b tb] news (RetHue news (hue3 r g b)) := by
  unfold Claim
  k_fill
  intro p loose mean mg mb dp un gd cn cs a ccd cl outer A₀ base h₀ L m s Q E B F X N T hk hd hu hret
  refine wpAny_call ?_
  k_dflt cell_enter
  k_steps
  iterate 3
    · refine ret_hue hret (by assumption) (by assumption) (by assumption) ?_
      unfold hue3
      simp only [*, if_true, if_false]
      try rfl

noncomputable def hlsOk (r g b : UInt64) : Bool :=
  let mx := max3 r g b
  let mn := min3 r g b
  let su := Float64.add mx mn
  !(Float64.isZero su) && !(Float64.isZero (Float64.sub (Float64.sub 4611686018427387904 mx) mn))

set_option maxRecDepth 100000 in
set_option maxHeartbeats 8000000 in
theorem rgb_hls_claim (w : World) (news : List (Addr × Obj)) (r g b : UInt64) (tr tg tb : Tok)
    (h1 : (Float64.cmp (min3 r g b) (max3 r g b) == some Ordering.eq) = false) (h2 : ¬ Float64.isZero (Float64.add (max3 r g b) (min3 r g b)) = true) (h3 : ¬ Float64.isZero (Float64.sub (max3 r g b) (min3 r g b)) = true)
    (h4 : ¬ Float64.isZero (Float64.sub (Float64.sub 4611686018427387904 (max3 r g b)) (min3 r g b)) = true) :
    Claim 2 w 21 [.float r tr, .float g tg, .float b tb] news (RetHue news (hue3 r g b)) := by
  unfold Claim
  k_fill
  intro p loose mean mg mb dp un gd cn cs a ccd cl outer A₀ base h₀ L m s Q E B F X N T hk hd hu hret
  refine wpAny_call ?_
  k_dflt cell_enter
  k_steps
  all_goals
    refine ret_hue hret (by assumption) (by assumption) (by assumption) ?_
    unfold hue3
    simp only [*, if_true, if_false]
    try rfl
end Mine
end
section
theorem Mine.fresh_FltD : True := by
  w_top off
  k_with_none
  trivial
open PySem PySem.Float64
set_option maxRecDepth 100000
set_option exponentiation.threshold 5000
namespace Mine
noncomputable def U : Nat := 2 ^ 1066
theorem upos : 0 < U := Nat.two_pow_pos _
theorem hU : (2 : Nat) ^ 1074 = 256 * U := by unfold U; rw [show (256 : Nat) = 2 ^ 8 from rfl, ← Nat.pow_add]
theorem hU2 : 2 ^ 53 * U = 2 ^ 1119 := by unfold U; rw [← Nat.pow_add]
noncomputable def D (i : Int) : UInt64 := Float64.ofFrac (decide (i < 0)) i.natAbs 256
theorem dist_zero {a b : Nat} (h : dist a b = 0) : a = b := by unfold dist at h; omega
theorem V_inj {a b : Nat} (h : V a = V b) : a = b := by
  rcases Nat.lt_trichotomy a b with h1 | h1 | h1
  · exact absurd h (Nat.ne_of_lt (V_lt h1))
  · exact h1
  · exact absurd h.symm (Nat.ne_of_lt (V_lt h1))
/-- an exact place for each m below 2^53 -/
theorem place_of {m : Nat} (h : m < 2 ^ 53) : ∃ t, V t = m * U ∧ t < infMag := by
  by_cases h0 : m = 0
  · subst h0
    exact ⟨0, by rw [V_zero, Nat.zero_mul], by decide⟩
  · have hl : m.log2 < 53 := (Nat.log2_lt h0).2 h
    have h1 : 2 ^ m.log2 ≤ m := Nat.log2_self_le h0
    have h2 : m < 2 ^ (m.log2 + 1) := (Nat.log2_lt h0).1 (Nat.lt_succ_self _)
    have e1 : 2 ^ m.log2 * 2 ^ (52 - m.log2) = 2 ^ 52 := by rw [← Nat.pow_add]; congr 1; omega
    have e2 : 2 ^ (m.log2 + 1) * 2 ^ (52 - m.log2) = 2 ^ 53 := by rw [← Nat.pow_add]; congr 1; omega
    have hq1 : 2 ^ 52 ≤ m * 2 ^ (52 - m.log2) := by rw [← e1]; exact Nat.mul_le_mul_right _ h1
    have hq2 : m * 2 ^ (52 - m.log2) ≤ 2 ^ 53 := by rw [← e2]; exact Nat.le_of_lt (Nat.mul_lt_mul_of_pos_right h2 (Nat.two_pow_pos _))
    refine ⟨(1066 - (52 - m.log2)) * 2 ^ 52 + m * 2 ^ (52 - m.log2), ?_, ?_⟩
    · unfold U
      rw [V_at hq2 (.inl hq1), Nat.mul_assoc, ← Nat.pow_add]
      congr 2
      omega
    · unfold infMag
      have : (1066 - (52 - m.log2)) * 2 ^ 52 ≤ 1066 * 2 ^ 52 := Nat.mul_le_mul_right _ (by omega)
      omega
theorem round_exact {n d m t : Nat} (hd : 0 < d) (h : n * 256 = m * d) (ht : V t = m * U) (hm : m < 2 ^ 53) : roundMag n d = t := by
  have hW : n * 2 ^ 1074 * 1 = m * U * d := by
    rw [hU, Nat.mul_one, ← Nat.mul_assoc, h, Nat.mul_assoc, Nat.mul_assoc, Nat.mul_comm d]
  have hlt : roundMag n d < infMag := by
    have hle : roundMag n d ≤ infMag := by rw [roundMag_min]; omega
    have hne : roundMag n d ≠ infMag := fun e => by
      have := (over_of hd hW (by decide : 0 < 1)).1 e
      have h1 : m * U ≤ 2 ^ 53 * U := Nat.mul_le_mul_right _ (Nat.le_of_lt hm)
      have h2 := hU2
      have h3 : 1 * ((2 ^ 54 - 1) * 2 ^ 2045) ≥ 2 ^ 2045 := by
        rw [Nat.one_mul]
        exact Nat.le_mul_of_pos_left _ (by decide)
      have h4 : 2 * 2 ^ 1119 < 2 ^ 2045 := by
        rw [show 2 * 2 ^ 1119 = 2 ^ 1120 by rw [Nat.pow_succ 2 1119, Nat.mul_comm]]
        exact Nat.pow_lt_pow_right (by decide) (by decide)
      omega
    omega
  have h := (right_of hd hW (by decide) hlt t).1
  rw [Nat.one_mul, Nat.one_mul, ht] at h
  have h0 : dist (m * U) (m * U) = 0 := by unfold dist; omega
  rw [h0] at h
  exact V_inj ((dist_zero (Nat.le_zero.1 h)).symm.trans ht.symm)
theorem D_at {i : Int} (h : i.natAbs < 2 ^ 53) : ∃ t, D i = pack (decide (i < 0)) t ∧ V t = i.natAbs * U ∧ t < infMag := by
  obtain ⟨t, h1, h2⟩ := place_of h
  exact ⟨t, by unfold D ofFrac; rw [round_exact (by decide) rfl h1 h], h1, h2⟩
theorem frac_D {n d : Nat} {i : Int} {b : Bool} (hd : 0 < d) (h : n * 256 = i.natAbs * d) (hb : b = decide (i < 0)) (hi : i.natAbs < 2 ^ 53) : ofFrac b n d = D i := by
  obtain ⟨t, h1, h2, h3⟩ := D_at hi
  rw [h1]
  unfold ofFrac
  rw [round_exact hd h h2 hi, hb]
theorem sgn_abs (i : Int) (k : Nat) : sgn (decide (i < 0)) (i.natAbs * k) = i * (k : Int) := by
  rw [sgn_mul]
  congr 1
  unfold sgn
  by_cases h : i < 0
  · rw [if_pos (by simpa using h)]; omega
  · rw [if_neg (by simpa using h)]; omega
structure DecD (i : Int) (m : Nat) (e : Int) : Prop where
  dec : decode (D i) = .fin (decide (i < 0)) m e
  mag : m * 2 ^ (e + 1074).toNat = i.natAbs * U
  val : val (D i) = i * (U : Int)
theorem D_dec {i : Int} (h : i.natAbs < 2 ^ 53) : ∃ m e, DecD i m e := by
  obtain ⟨t, h1, h2, h3⟩ := D_at h
  obtain ⟨m, e, h4, h5⟩ := decode_pack (decide (i < 0)) h3
  refine ⟨m, e, by rw [h1]; exact h4, by rw [h5, h2], ?_⟩
  rw [h1, val_pack _ h3, h2]
  exact sgn_abs i U
theorem right_D {r : UInt64} {b : Bool} {W Dd : Nat} {i : Int} (hR : Right r b W Dd) (hD : 0 < Dd) (hW : W = i.natAbs * U * Dd) (hb : b = decide (i < 0)) (hi : i.natAbs < 2 ^ 53) : r = D i := by
  obtain ⟨t, h1, h2, h3, h4⟩ := hR
  obtain ⟨t0, e1, e2, e3⟩ := D_at hi
  have hlt : t < infMag := by
    have hne : t ≠ infMag := fun e => by
      have := h3.1 e
      rw [hW] at this
      have h6 : i.natAbs * U ≤ 2 ^ 53 * U := Nat.mul_le_mul_right _ (Nat.le_of_lt hi)
      have h7 := hU2
      have h8 : (2 ^ 54 - 1) * 2 ^ 2045 ≤ 2 * (i.natAbs * U) := by
        refine Nat.le_of_mul_le_mul_left ?_ hD
        calc Dd * ((2 ^ 54 - 1) * 2 ^ 2045) ≤ 2 * (i.natAbs * U * Dd) := this
          _ = Dd * (2 * (i.natAbs * U)) := by ac_rfl
      have h9 : (2 ^ 54 - 1) * 2 ^ 2045 ≥ 2 ^ 2045 := Nat.le_mul_of_pos_left _ (by decide)
      have h10 : 2 * 2 ^ 1119 < 2 ^ 2045 := by
        rw [show 2 * 2 ^ 1119 = 2 ^ 1120 by rw [Nat.pow_succ 2 1119, Nat.mul_comm]]
        exact Nat.pow_lt_pow_right (by decide) (by decide)
      omega
    omega
  have h := (h4 hlt t0).1
  rw [e2, hW, show i.natAbs * U * Dd = Dd * (i.natAbs * U) by ac_rfl] at h
  have h0 : dist (Dd * (i.natAbs * U)) (Dd * (i.natAbs * U)) = 0 := by unfold dist; omega
  rw [h0] at h
  have h5 := dist_zero (Nat.le_zero.1 h)
  have h6 := Nat.eq_of_mul_eq_mul_left hD h5
  have h7 : t = t0 := V_inj (h6.symm.trans e2.symm)
  rw [h1, e1, h7, hb]
theorem uI : (0 : Int) < (U : Int) := Int.ofNat_lt.2 upos
theorem D_zero : zero false = D 0 := by decide +kernel
theorem D_add {i j : Int} (hi : i.natAbs < 2 ^ 53) (hj : j.natAbs < 2 ^ 53) (hs : (i + j).natAbs < 2 ^ 53) : add (D i) (D j) = D (i + j) := by
  obtain ⟨m, e, a⟩ := D_dec hi
  obtain ⟨k, f, b⟩ := D_dec hj
  have h := add_right a.dec b.dec
  rw [a.val, b.val, ← Int.add_mul] at h
  by_cases h0 : i + j = 0
  · have := h.1 (by rw [h0, Int.zero_mul])
    rw [this, h0, ← D_zero]
    congr 1
    by_cases h1 : i < 0
    · have : ¬ j < 0 := by omega
      simp [h1, this]
    · simp [h1]
  · have hne : (i + j) * (U : Int) ≠ 0 := fun e => (Int.mul_eq_zero.1 e).elim h0 (fun e => by have := uI; omega)
    refine right_D (h.2 hne) (by decide) ?_ ?_ hs
    · rw [Int.natAbs_mul, Int.natAbs_natCast, Nat.mul_one]
    · refine decide_eq_decide.2 ⟨fun h1 => ?_, fun h1 => Int.mul_neg_of_neg_of_pos h1 uI⟩
      by_cases h2 : i + j < 0
      · exact h2
      · have := Int.mul_nonneg (show 0 ≤ i + j by omega) (Int.le_of_lt uI); omega
theorem D_sub {i j : Int} (hi : i.natAbs < 2 ^ 53) (hj : j.natAbs < 2 ^ 53) (hs : (i - j).natAbs < 2 ^ 53) (hp : 0 ≤ i) : sub (D i) (D j) = D (i - j) := by
  obtain ⟨m, e, a⟩ := D_dec hi
  obtain ⟨k, f, b⟩ := D_dec hj
  have h := sub_right a.dec b.dec
  rw [a.val, b.val, ← Int.sub_mul] at h
  by_cases h0 : i - j = 0
  · have := h.1 (by rw [h0, Int.zero_mul])
    rw [this, h0, ← D_zero]
    congr 1
    simp [show ¬ i < 0 by omega]
  · have hne : (i - j) * (U : Int) ≠ 0 := fun e => (Int.mul_eq_zero.1 e).elim h0 (fun e => by have := uI; omega)
    refine right_D (h.2 hne) (by decide) ?_ ?_ hs
    · rw [Int.natAbs_mul, Int.natAbs_natCast, Nat.mul_one]
    · refine decide_eq_decide.2 ⟨fun h1 => ?_, fun h1 => Int.mul_neg_of_neg_of_pos h1 uI⟩
      by_cases h2 : i - j < 0
      · exact h2
      · have := Int.mul_nonneg (show 0 ≤ i - j by omega) (Int.le_of_lt uI); omega
theorem D_mul {i j r : Int} (hi : i.natAbs < 2 ^ 53) (hj : j.natAbs < 2 ^ 53) (hr : r.natAbs < 2 ^ 53) (h0 : 0 ≤ i) (h1 : 0 ≤ j) (h2 : i * j = 256 * r) : mul (D i) (D j) = D r := by
  obtain ⟨m, e, a⟩ := D_dec hi
  obtain ⟨k, f, b⟩ := D_dec hj
  have h := mul_right a.dec b.dec
  rw [a.val, b.val] at h
  have hr0 : 0 ≤ r := by have := Int.mul_nonneg h0 h1; omega
  refine right_D h (Nat.two_pow_pos _) ?_ ?_ hr
  · have e1 : i.natAbs * j.natAbs = 256 * r.natAbs := by rw [← Int.natAbs_mul, h2, Int.natAbs_mul]; rfl
    rw [Int.natAbs_mul, Int.natAbs_mul, Int.natAbs_natCast, hU]
    calc i.natAbs * U * (j.natAbs * U) = i.natAbs * j.natAbs * (U * U) := by ac_rfl
      _ = 256 * r.natAbs * (U * U) := by rw [e1]
      _ = r.natAbs * U * (256 * U) := by ac_rfl
  · simp [show ¬ i < 0 by omega, show ¬ j < 0 by omega, show ¬ r < 0 by omega]
theorem D_div {i j r : Int} (hi : i.natAbs < 2 ^ 53) (hj : j.natAbs < 2 ^ 53) (hr : r.natAbs < 2 ^ 53) (h1 : 0 < j) (h2 : i * 256 = r * j) : div (D i) (D j) = D r := by
  obtain ⟨m, e, a⟩ := D_dec hi
  obtain ⟨k, f, b⟩ := D_dec hj
  have hk : k ≠ 0 := fun e0 => by
    have := b.mag
    rw [e0, Nat.zero_mul] at this
    have h3 := Nat.mul_eq_zero.1 this.symm
    have := upos
    omega
  have h := div_right a.dec b.dec hk
  rw [a.val, b.val] at h
  refine right_D h ?_ ?_ ?_ hr
  · rw [Int.natAbs_mul, Int.natAbs_natCast]; exact Nat.mul_pos (by omega) upos
  · have e1 : i.natAbs * 256 = r.natAbs * j.natAbs := by
      have : (i * 256).natAbs = (r * j).natAbs := by rw [h2]
      rwa [Int.natAbs_mul, Int.natAbs_mul] at this
    rw [Int.natAbs_mul, Int.natAbs_mul, Int.natAbs_natCast, hU]
    calc i.natAbs * U * (256 * U) = i.natAbs * 256 * (U * U) := by ac_rfl
      _ = r.natAbs * j.natAbs * (U * U) := by rw [e1]
      _ = r.natAbs * U * (j.natAbs * U) := by ac_rfl
  · have hj0 : ¬ j < 0 := by omega
    have hiff : i < 0 ↔ r < 0 := by
      constructor
      · intro h3
        by_cases h4 : r < 0
        · exact h4
        · have := Int.mul_nonneg (show 0 ≤ r by omega) (Int.le_of_lt h1); omega
      · intro h3
        have := Int.mul_neg_of_neg_of_pos h3 h1; omega
    simp [hj0, hiff]
theorem D_cmp {i j : Int} (hi : i.natAbs < 2 ^ 53) (hj : j.natAbs < 2 ^ 53) : cmp (D i) (D j) = some (compare i j) := by
  obtain ⟨m, e, a⟩ := D_dec hi
  obtain ⟨k, f, b⟩ := D_dec hj
  rw [cmp_right a.dec b.dec, a.val, b.val]
  congr 1
  rcases Int.lt_trichotomy i j with h | h | h
  · rw [Int.compare_eq_lt.mpr h, Int.compare_eq_lt.mpr (Int.mul_lt_mul_of_pos_right h uI)]
  · subst h; simp
  · rw [Int.compare_eq_gt.mpr h, Int.compare_eq_gt.mpr (Int.mul_lt_mul_of_pos_right h uI)]
theorem D_isZero {i : Int} (hi : i.natAbs < 2 ^ 53) : isZero (D i) = decide (i = 0) := by
  obtain ⟨m, e, a⟩ := D_dec hi
  unfold isZero
  rw [a.dec]
  have hmag := a.mag
  cases m with
  | zero =>
    rw [Nat.zero_mul] at hmag
    have h3 := Nat.mul_eq_zero.1 hmag.symm
    have := upos
    simp; omega
  | succ m =>
    have h0 : i ≠ 0 := fun e0 => by
      subst e0
      have h4 : (m + 1) * 2 ^ (e + 1074).toNat = 0 := by rw [hmag]; simp
      rcases Nat.mul_eq_zero.1 h4 with h5 | h5
      · omega
      · exact absurd h5 (Nat.ne_of_gt (Nat.two_pow_pos _))
    simp [h0]
theorem D_fin {i : Int} (hi : i.natAbs < 2 ^ 53) : isFinite (D i) = true ∧ isInf (D i) = false := by
  obtain ⟨m, e, a⟩ := D_dec hi
  unfold isFinite isInf
  rw [a.dec]
  exact ⟨rfl, rfl⟩
theorem D_trunc {i : Int} (hi : i.natAbs < 2 ^ 53) (h0 : 0 ≤ i) : Flt.toInt truncOf (D i) = i / 256 := by
  obtain ⟨m, e, a⟩ := D_dec hi
  rw [Flt.toInt_fin a.dec]
  have hn : decide (i < 0) = false := by simp; omega
  rw [hn]
  unfold truncOf
  rw [if_neg (by decide)]
  unfold floorOf
  have he := decode_ge a.dec
  have hmag := a.mag
  have hi2 : i = ((i.natAbs : Nat) : Int) := by omega
  split
  · rename_i hge
    have e1 : (e + 1074).toNat = e.toNat + 1074 := by omega
    rw [e1, Nat.pow_add, hU] at hmag
    have h3 : m * 2 ^ e.toNat * 256 * U = i.natAbs * U := by rw [← hmag]; ac_rfl
    have h4 := Nat.eq_of_mul_eq_mul_right upos h3
    have h5 : sgn false m = (m : Int) := rfl
    rw [h5, hi2, ← h4]
    rw [Int.natCast_mul, Int.natCast_mul]
    rw [show ((256 : Nat) : Int) = 256 from rfl, Int.mul_ediv_cancel _ (by decide)]
    simp
  · rename_i hlt
    have e1 : 1074 = (e + 1074).toNat + (-e).toNat := by omega
    have h5 : sgn false m = (m : Int) := rfl
    rw [h5, Int.fdiv_eq_ediv_of_nonneg _ (by exact Int.le_of_lt (Int.pow_pos (by decide)))]
    rw [hi2]
    have h6 : m / 2 ^ (-e).toNat = i.natAbs / 256 := by
      calc m / 2 ^ (-e).toNat = (m * 2 ^ (e + 1074).toNat) / (2 ^ (-e).toNat * 2 ^ (e + 1074).toNat) := (Nat.mul_div_mul_right _ _ (Nat.two_pow_pos _)).symm
        _ = (i.natAbs * U) / (256 * U) := by rw [hmag, ← Nat.pow_add, Nat.add_comm (-e).toNat, ← e1, hU]
        _ = i.natAbs / 256 := Nat.mul_div_mul_right _ _ upos
    rw [show (256 : Int) = ((256 : Nat) : Int) from rfl, ← Int.natCast_ediv, ← h6, Int.natCast_ediv]
    simp
theorem D_ofInt {i : Int} (h : (256 * i).natAbs < 2 ^ 53) : ofInt i = D (256 * i) := by
  unfold ofInt
  refine frac_D (by decide) ?_ ?_ h
  · rw [Int.natAbs_mul, Nat.mul_one, Nat.mul_comm]; rfl
  · exact decide_eq_decide.2 (by omega)
end Mine
end
section
theorem Mine.fresh_FltM : True := by
  w_top off
  k_with_none
  trivial
open PySem PySem.Float64
set_option maxRecDepth 100000
set_option exponentiation.threshold 5000
namespace Mine
theorem one_D : (4607182418800017408 : UInt64) = D 256 := by decide +kernel
theorem up_of {e f : Int} (he : -1074 ≤ e) (hf : -1074 ≤ f) : (e - min e f).toNat + (min e f + 1074).toNat = (e + 1074).toNat ∧ (f - min e f).toNat + (min e f + 1074).toNat = (f + 1074).toNat ∧ -1074 ≤ min e f := by
  rcases Int.le_total e f with h | h
  · rw [Int.min_eq_left h]
    exact ⟨by omega, by omega, he⟩
  · rw [Int.min_eq_right h]
    exact ⟨by omega, by omega, hf⟩
theorem D_fmod {i : Int} (hi : i.natAbs < 2 ^ 53) : fmod (D i) (D 256) = ofFrac (decide (i < 0)) (i.natAbs % 256) 256 := by
  obtain ⟨m, e, a⟩ := D_dec hi
  obtain ⟨k, f, b⟩ := D_dec (i := 256) (by decide)
  have hk : k ≠ 0 := fun e0 => by
    have := b.mag
    rw [e0, Nat.zero_mul] at this
    have h3 := Nat.mul_eq_zero.1 this.symm
    have := upos
    omega
  have he := decode_ge a.dec
  have hf := decode_ge b.dec
  unfold fmod
  rw [a.dec, b.dec]
  show (if (k == 0) = true then nan else ofBin (decide (i < 0)) ((sgn false (m * 2 ^ (e - min e f).toNat)).toNat % (sgn false (k * 2 ^ (f - min e f).toNat)).toNat) (min e f)) = _
  rw [if_neg (by simpa using hk)]
  have hs : ∀ n : Nat, (sgn false n).toNat = n := fun n => rfl
  rw [hs, hs]
  have hlt : i.natAbs % 256 < 2 ^ 53 := by have := Nat.mod_lt i.natAbs (show 0 < 256 by decide); omega
  obtain ⟨t, h1, h2⟩ := place_of hlt
  have h3 : roundMag (i.natAbs % 256) 256 = t := round_exact (by decide) rfl h1 hlt
  have e1 : m * 2 ^ (e - min e f).toNat * 2 ^ (min e f + 1074).toNat = i.natAbs * U := by
    rw [Nat.mul_assoc, ← Nat.pow_add, ← a.mag, (up_of he hf).1]
  have e2 : k * 2 ^ (f - min e f).toNat * 2 ^ (min e f + 1074).toNat = 256 * U := by
    have hm := b.mag
    rw [Nat.mul_assoc, ← Nat.pow_add]
    rw [(up_of he hf).2.1, hm]; rfl
  have e3 : (m * 2 ^ (e - min e f).toNat % (k * 2 ^ (f - min e f).toNat)) * 2 ^ (min e f + 1074).toNat = (i.natAbs % 256) * U := by
    rw [← Nat.mul_mod_mul_right, e1, e2, Nat.mul_mod_mul_right]
  unfold ofBin
  generalize m * 2 ^ (e - min e f).toNat % (k * 2 ^ (f - min e f).toNat) = M at e3 ⊢
  have hsh := shift_one M (min e f) 1074 (by omega)
  have hp := shift_pos M 1 (min e f) (by decide)
  show ofFrac _ (shift M 1 (min e f)).1 (shift M 1 (min e f)).2 = _
  unfold ofFrac
  rw [h3, round_exact (m := i.natAbs % 256) (t := t) hp ?_ h1 hlt]
  rw [show (min e f + ((1074 : Nat) : Int)) = min e f + 1074 from rfl, e3, hU] at hsh
  have h5 : (shift M 1 (min e f)).1 * 256 * U = i.natAbs % 256 * (shift M 1 (min e f)).2 * U := by
    calc (shift M 1 (min e f)).1 * 256 * U = (shift M 1 (min e f)).1 * (256 * U) := by ac_rfl
      _ = i.natAbs % 256 * U * (shift M 1 (min e f)).2 := hsh
      _ = _ := by ac_rfl
  exact Nat.eq_of_mul_eq_mul_right upos h5
theorem divmod_snd (x y : UInt64) : (divmod x y).2 = if isZero (fmod x y) then copysign (zero false) y else if lt y (zero false) != lt (fmod x y) (zero false) then add (fmod x y) y else fmod x y := by
  unfold divmod
  dsimp only
  split
  · rfl
  · split <;> rfl
theorem D_mod {i : Int} (hi : i.natAbs < 2 ^ 52) : (divmod (D i) 4607182418800017408).2 = D (i % 256) := by
  rw [one_D, divmod_snd, D_fmod (by omega)]
  have hr : (i.natAbs % 256) < 256 := Nat.mod_lt _ (by decide)
  by_cases h0 : i.natAbs % 256 = 0
  · have hz : isZero (ofFrac (decide (i < 0)) (i.natAbs % 256) 256) = true := by
      rw [h0]
      cases decide (i < 0) <;> decide +kernel
    rw [if_pos hz]
    have h1 : i % 256 = 0 := by omega
    rw [h1]
    decide +kernel
  · by_cases hn : i < 0
    · have h1 : ofFrac (decide (i < 0)) (i.natAbs % 256) 256 = D (-((i.natAbs % 256 : Nat) : Int)) := by
        refine frac_D (by decide) ?_ ?_ ?_
        · rw [Int.natAbs_neg, Int.natAbs_natCast]
        · exact decide_eq_decide.2 (by omega)
        · rw [Int.natAbs_neg, Int.natAbs_natCast]; omega
      rw [h1]
      have hb : (-((i.natAbs % 256 : Nat) : Int)).natAbs < 2 ^ 53 := by rw [Int.natAbs_neg, Int.natAbs_natCast]; omega
      have hz : isZero (D (-((i.natAbs % 256 : Nat) : Int))) = false := by
        rw [D_isZero hb]
        simp; omega
      rw [hz, if_neg (by decide)]
      have l1 : lt (D 256) (zero false) = false := by decide +kernel
      have l2 : lt (D (-((i.natAbs % 256 : Nat) : Int))) (zero false) = true := by
        unfold lt
        rw [D_zero, D_cmp hb (by decide), Int.compare_eq_lt.mpr (by omega)]
        rfl
      rw [l1, l2, if_pos (by decide)]
      rw [D_add hb (by decide) (by omega)]
      congr 1
      omega
    · have h1 : ofFrac (decide (i < 0)) (i.natAbs % 256) 256 = D (((i.natAbs % 256 : Nat) : Int)) := by
        refine frac_D (by decide) ?_ ?_ ?_
        · rw [Int.natAbs_natCast]
        · exact decide_eq_decide.2 (by omega)
        · rw [Int.natAbs_natCast]; omega
      rw [h1]
      have hb : (((i.natAbs % 256 : Nat) : Int)).natAbs < 2 ^ 53 := by rw [Int.natAbs_natCast]; omega
      have hz : isZero (D (((i.natAbs % 256 : Nat) : Int))) = false := by
        rw [D_isZero hb]
        simp; omega
      rw [hz, if_neg (by decide)]
      have l1 : lt (D 256) (zero false) = false := by decide +kernel
      have l2 : lt (D (((i.natAbs % 256 : Nat) : Int))) (zero false) = false := by
        unfold lt
        rw [D_zero, D_cmp hb (by decide), Int.compare_eq_gt.mpr (by omega)]
        rfl
      rw [l1, l2, if_neg (by decide)]
      congr 1
      omega
end Mine
end
section
theorem Mine.fresh_NumA : True := by
  w_top off
  k_with_none
  trivial
open PySem PySem.Float64
set_option maxRecDepth 100000
namespace Mine
/-- the same in whole numbers, the unit 1/256 -/
noncomputable def hsvZ (s v i f : Int) : Int × Int × Int :=
  let p := v * (256 - s) / 256
  let q := v * (256 - s * f / 256) / 256
  let t := v * (256 - s * (256 - f) / 256) / 256
  if i % 6 = 0 then (v, t, p) else if i % 6 = 1 then (q, v, p) else if i % 6 = 2 then (p, v, t) else if i % 6 = 3 then (p, q, v) else if i % 6 = 4 then (t, p, v) else (v, p, q)
noncomputable def max3Z (a b c : Int) : Int :=
  let x := if a < b then b else a
  if x < c then c else x
noncomputable def min3Z (a b c : Int) : Int :=
  let x := if b < a then b else a
  if c < x then c else x
noncomputable def h6Z (r g b : Int) : Int :=
  let mx := max3Z r g b
  let rg := mx - min3Z r g b
  let rc := (mx - r) * 256 / rg
  let gc := (mx - g) * 256 / rg
  let bc := (mx - b) * 256 / rg
  if r = mx then bc - gc else if g = mx then 512 + rc - bc else 1024 + gc - rc
noncomputable def sane (x : Int) : Bool := decide (0 ≤ x) && decide (x ≤ 256)
/-- every step is exact, for f in sixteenths, s and v in quarters -/
noncomputable def exZ (s v f : Int) : Bool :=
  decide (v * (256 - s) % 256 = 0) && decide (s * f % 256 = 0) && decide (v * (256 - s * f / 256) % 256 = 0) && decide (s * (256 - f) % 256 = 0) && decide (v * (256 - s * (256 - f) / 256) % 256 = 0) &&
    sane (s * f / 256) && sane (s * (256 - f) / 256)
noncomputable def rgbZ (r g b : Int) : Bool :=
  let mx := max3Z r g b
  let mn := min3Z r g b
  let rg := mx - mn
  sane r && sane g && sane b && decide (mn < mx) && decide ((mx - r) * 256 % rg = 0) && decide ((mx - g) * 256 % rg = 0) && decide ((mx - b) * 256 % rg = 0) &&
    sane ((mx - r) * 256 / rg) && sane ((mx - g) * 256 / rg) && sane ((mx - b) * 256 / rg) && decide (h6Z r g b % 6 = 0) && decide (mx + mn < 512)
noncomputable def chkZ (n a b : Int) : Bool :=
  let h6 := 48 * n
  let i := h6 / 256
  let f := h6 - 256 * i
  let s := 64 * a
  let v := 64 * b
  let c := hsvZ s v i f
  exZ s v f && rgbZ c.1 c.2.1 c.2.2 && decide (h6Z c.1 c.2.1 c.2.2 / 6 % 256 = 8 * n % 256)
theorem chkZ_all : (List.range 32).all (fun n => (List.range 4).all fun a => (List.range 4).all fun b => chkZ n (a + 1) (b + 1)) = true := by decide +kernel
end Mine
end
section
theorem Mine.fresh_NumB : True := by
  w_top off
  k_with_none
  trivial
open PySem PySem.Float64
set_option maxRecDepth 100000
namespace Mine
theorem six_D : (4618441417868443648 : UInt64) = D 1536 := by decide +kernel
theorem two_D : (4611686018427387904 : UInt64) = D 512 := by decide +kernel
theorem four_D : (4616189618054758400 : UInt64) = D 1024 := by decide +kernel
theorem D_lt {a b : Int} (ha : a.natAbs < 2 ^ 53) (hb : b.natAbs < 2 ^ 53) : (Float64.cmp (D a) (D b) == some Ordering.lt) = decide (a < b) := by
  rw [D_cmp ha hb]
  rcases Int.lt_trichotomy a b with h | h | h
  · rw [Int.compare_eq_lt.mpr h]; simp [h]
  · subst h; simp
  · rw [Int.compare_eq_gt.mpr h]; simp; omega
theorem D_eq {a b : Int} (ha : a.natAbs < 2 ^ 53) (hb : b.natAbs < 2 ^ 53) : (Float64.cmp (D a) (D b) == some Ordering.eq) = decide (a = b) := by
  rw [D_cmp ha hb]
  rcases Int.lt_trichotomy a b with h | h | h
  · rw [Int.compare_eq_lt.mpr h]; simp; omega
  · subst h; simp
  · rw [Int.compare_eq_gt.mpr h]; simp; omega
theorem D_max3 {a b c : Int} (ha : a.natAbs < 2 ^ 53) (hb : b.natAbs < 2 ^ 53) (hc : c.natAbs < 2 ^ 53) : max3 (D a) (D b) (D c) = D (max3Z a b c) := by
  unfold max3 max3Z
  rw [D_lt ha hb]
  by_cases h1 : a < b
  · simp only [h1, decide_true, if_true]
    rw [D_lt hb hc]
    by_cases h2 : b < c <;> simp [h2]
  · simp only [h1, decide_false, if_false, Bool.false_eq_true]
    rw [D_lt ha hc]
    by_cases h2 : a < c <;> simp [h2]
theorem D_min3 {a b c : Int} (ha : a.natAbs < 2 ^ 53) (hb : b.natAbs < 2 ^ 53) (hc : c.natAbs < 2 ^ 53) : min3 (D a) (D b) (D c) = D (min3Z a b c) := by
  unfold min3 min3Z
  rw [D_lt hb ha]
  by_cases h1 : b < a
  · simp only [h1, decide_true, if_true]
    rw [D_lt hc hb]
    by_cases h2 : c < b <;> simp [h2]
  · simp only [h1, decide_false, if_false, Bool.false_eq_true]
    rw [D_lt hc ha]
    by_cases h2 : c < a <;> simp [h2]
theorem max3Z_of (a b c : Int) : (max3Z a b c = a ∨ max3Z a b c = b ∨ max3Z a b c = c) ∧ a ≤ max3Z a b c ∧ b ≤ max3Z a b c ∧ c ≤ max3Z a b c := by
  unfold max3Z
  dsimp only
  split <;> split
  · exact ⟨.inr (.inr rfl), Int.le_of_lt (Int.lt_trans ‹_› ‹_›), Int.le_of_lt ‹_›, Int.le_refl _⟩
  · exact ⟨.inr (.inl rfl), Int.le_of_lt ‹_›, Int.le_refl _, Int.not_lt.1 ‹_›⟩
  · exact ⟨.inr (.inr rfl), Int.le_of_lt ‹_›, Int.le_of_lt (Int.lt_of_le_of_lt (Int.not_lt.1 ‹_›) ‹_›), Int.le_refl _⟩
  · exact ⟨.inl rfl, Int.le_refl _, Int.not_lt.1 ‹_›, Int.not_lt.1 ‹_›⟩
theorem min3Z_of (a b c : Int) : (min3Z a b c = a ∨ min3Z a b c = b ∨ min3Z a b c = c) ∧ min3Z a b c ≤ a ∧ min3Z a b c ≤ b ∧ min3Z a b c ≤ c := by
  unfold min3Z
  dsimp only
  split <;> split
  · exact ⟨.inr (.inr rfl), Int.le_of_lt (Int.lt_trans ‹_› ‹_›), Int.le_of_lt ‹_›, Int.le_refl _⟩
  · exact ⟨.inr (.inl rfl), Int.le_of_lt ‹_›, Int.le_refl _, Int.not_lt.1 ‹_›⟩
  · exact ⟨.inr (.inr rfl), Int.le_of_lt ‹_›, Int.le_of_lt (Int.lt_of_lt_of_le ‹_› (Int.not_lt.1 ‹_›)), Int.le_refl _⟩
  · exact ⟨.inl rfl, Int.le_refl _, Int.not_lt.1 ‹_›, Int.not_lt.1 ‹_›⟩
/-- a value between 0 and 256 -/
structure In (x : Int) : Prop where
  lo : 0 ≤ x
  hi : x ≤ 256
theorem In.of {x : Int} (h : 0 ≤ x ∧ x ≤ 256) : In x := ⟨h.1, h.2⟩
/-- a small value -/
structure Sm (x : Int) : Prop where
  lo : -4000 ≤ x
  hi : x ≤ 4000
theorem Sm.n {x : Int} (h : Sm x) : x.natAbs < 2 ^ 53 := by
  obtain ⟨h1, h2⟩ := h
  omega
theorem Sm.n6 {x : Int} (h : Sm x) : (x / 6).natAbs < 2 ^ 52 := by
  obtain ⟨h1, h2⟩ := h
  omega
theorem Sm.n2 {x y : Int} (h : Sm x) (h' : Sm y) : (x - y).natAbs < 2 ^ 53 := by
  obtain ⟨h1, h2⟩ := h
  obtain ⟨h3, h4⟩ := h'
  omega
theorem Sm.n3 {x y : Int} (h : Sm x) (h' : Sm y) : (x + y).natAbs < 2 ^ 53 := by
  obtain ⟨h1, h2⟩ := h
  obtain ⟨h3, h4⟩ := h'
  omega
theorem In.sm {x : Int} (h : In x) : Sm x := ⟨Int.le_trans (by decide) h.lo, Int.le_trans h.hi (by decide)⟩
theorem In.sub {x y : Int} (h : In x) (h' : In y) : Sm (x - y) := by
  obtain ⟨h1, h2⟩ := h
  obtain ⟨h3, h4⟩ := h'
  exact ⟨by omega, by omega⟩
theorem In.add {x : Int} (h : In x) : Sm (512 + x) ∧ Sm (1024 + x) ∧ 0 ≤ 512 + x ∧ 0 ≤ 1024 + x := by
  obtain ⟨h1, h2⟩ := h
  exact ⟨⟨by omega, by omega⟩, ⟨by omega, by omega⟩, by omega, by omega⟩
theorem In.adds {x y : Int} (h : In x) (h' : In y) : Sm (512 + x - y) ∧ Sm (1024 + x - y) := by
  obtain ⟨h1, h2⟩ := h
  obtain ⟨h3, h4⟩ := h'
  exact ⟨⟨by omega, by omega⟩, ⟨by omega, by omega⟩⟩
theorem D_sub_s {i j : Int} (hi : Sm i) (hj : Sm j) (h0 : 0 ≤ i) : sub (D i) (D j) = D (i - j) := D_sub hi.n hj.n (hi.n2 hj) h0
theorem D_add_s {i j : Int} (hi : Sm i) (hj : Sm j) : add (D i) (D j) = D (i + j) := D_add hi.n hj.n (hi.n3 hj)
theorem max3Z_in {a b c : Int} (ha : In a) (hb : In b) (hc : In c) : In (max3Z a b c) := by
  rcases (max3Z_of a b c).1 with h | h | h <;> rw [h] <;> assumption
theorem min3Z_in {a b c : Int} (ha : In a) (hb : In b) (hc : In c) : In (min3Z a b c) := by
  rcases (min3Z_of a b c).1 with h | h | h <;> rw [h] <;> assumption
theorem sane_of {x : Int} (h : sane x = true) : 0 ≤ x ∧ x ≤ 256 := by
  unfold sane at h
  simpa using h
structure RgbZ (r g b : Int) : Prop where
  r0 : 0 ≤ r ∧ r ≤ 256
  g0 : 0 ≤ g ∧ g ≤ 256
  b0 : 0 ≤ b ∧ b ≤ 256
  lt : min3Z r g b < max3Z r g b
  dr : (max3Z r g b - r) * 256 % (max3Z r g b - min3Z r g b) = 0
  dg : (max3Z r g b - g) * 256 % (max3Z r g b - min3Z r g b) = 0
  db : (max3Z r g b - b) * 256 % (max3Z r g b - min3Z r g b) = 0
  rc : 0 ≤ (max3Z r g b - r) * 256 / (max3Z r g b - min3Z r g b) ∧ (max3Z r g b - r) * 256 / (max3Z r g b - min3Z r g b) ≤ 256
  gc : 0 ≤ (max3Z r g b - g) * 256 / (max3Z r g b - min3Z r g b) ∧ (max3Z r g b - g) * 256 / (max3Z r g b - min3Z r g b) ≤ 256
  bc : 0 ≤ (max3Z r g b - b) * 256 / (max3Z r g b - min3Z r g b) ∧ (max3Z r g b - b) * 256 / (max3Z r g b - min3Z r g b) ≤ 256
  six : h6Z r g b % 6 = 0
  two : max3Z r g b + min3Z r g b < 512
theorem rgbZ_of {r g b : Int} (h : rgbZ r g b = true) : RgbZ r g b := by
  unfold rgbZ at h
  simp only [Bool.and_eq_true, decide_eq_true_eq] at h
  obtain ⟨⟨⟨⟨⟨⟨⟨⟨⟨⟨⟨h1, h2⟩, h3⟩, h4⟩, h5⟩, h6⟩, h7⟩, h8⟩, h9⟩, h10⟩, h11⟩, h12⟩ := h
  exact ⟨sane_of h1, sane_of h2, sane_of h3, h4, h5, h6, h7, sane_of h8, sane_of h9, sane_of h10, h11, h12⟩
theorem D_quot {x y : Int} (hx : Sm x) (hy : Sm y) (hy0 : 0 < y) (hd : x * 256 % y = 0) (hq : In (x * 256 / y)) : div (D x) (D y) = D (x * 256 / y) :=
  D_div hx.n hy.n hq.sm.n hy0 (Int.ediv_mul_cancel (Int.dvd_of_emod_eq_zero hd)).symm
theorem D_sixth {x : Int} (e : x % 6 = 0) (h : Sm x) : (divmod (div (D x) (D 1536)) 4607182418800017408).2 = D (x / 6 % 256) := by
  have h6 := h.n6
  rw [D_div (r := x / 6) h.n (by decide) (Nat.lt_trans h6 (by decide)) (by decide) ?_, D_mod h6]
  clear h6 h
  omega
theorem D_hue {r g b : Int} (z : RgbZ r g b) : hue3 (D r) (D g) (D b) = D (h6Z r g b / 6 % 256) := by
  have r0 := In.of z.r0
  have g0 := In.of z.g0
  have b0 := In.of z.b0
  have hx := max3Z_in r0 g0 b0
  have hn := min3Z_in r0 g0 b0
  have hlt := Int.sub_pos_of_lt z.lt
  have hrc := In.of z.rc
  have hgc := In.of z.gc
  have hbc := In.of z.bc
  have hsix := z.six
  unfold hue3
  unfold h6Z at hsix ⊢
  rw [D_max3 r0.sm.n g0.sm.n b0.sm.n, D_min3 r0.sm.n g0.sm.n b0.sm.n]
  have d1 := z.dr
  have d2 := z.dg
  have d3 := z.db
  generalize max3Z r g b = mx at *
  generalize min3Z r g b = mn at *
  dsimp only at hsix ⊢
  have q1 := D_quot (hx.sub r0) (hx.sub hn) hlt d1 hrc
  have q2 := D_quot (hx.sub g0) (hx.sub hn) hlt d2 hgc
  have q3 := D_quot (hx.sub b0) (hx.sub hn) hlt d3 hbc
  rw [D_sub_s hx.sm hn.sm hx.lo, D_sub_s hx.sm r0.sm hx.lo, D_sub_s hx.sm g0.sm hx.lo, D_sub_s hx.sm b0.sm hx.lo]
  rw [q1, q2, q3, D_eq r0.sm.n hx.sm.n, D_eq g0.sm.n hx.sm.n, two_D, four_D, six_D]
  clear q1 q2 q3 d1 d2 d3 hlt hn z
  generalize (mx - r) * 256 / (mx - mn) = rc at *
  generalize (mx - g) * 256 / (mx - mn) = gc at *
  generalize (mx - b) * 256 / (mx - mn) = bc at *
  by_cases h1 : r = mx
  · rw [if_pos h1] at hsix ⊢
    rw [if_pos (decide_eq_true h1)]
    rw [D_sub_s hbc.sm hgc.sm hbc.lo]
    exact D_sixth hsix (hbc.sub hgc)
  · rw [if_neg h1] at hsix ⊢
    rw [if_neg (by simpa using h1)]
    by_cases h2 : g = mx
    · rw [if_pos h2] at hsix ⊢
      rw [if_pos (decide_eq_true h2)]
      rw [D_add_s ⟨by decide, by decide⟩ hrc.sm, D_sub_s hrc.add.1 hbc.sm hrc.add.2.2.1]
      exact D_sixth hsix (hrc.adds hbc).1
    · rw [if_neg h2] at hsix ⊢
      rw [if_neg (by simpa using h2)]
      rw [D_add_s ⟨by decide, by decide⟩ hgc.sm, D_sub_s hgc.add.2.1 hrc.sm hgc.add.2.2.2]
      exact D_sixth hsix (hgc.adds hrc).2
end Mine
end
section
theorem Mine.fresh_NumP : True := by
  w_top off
  k_with_none
  trivial
open PySem PySem.W PyProof.Rows PySem.Calls PySem.Spec
namespace Mine
noncomputable def qF (x y : Int) : UInt64 := Float64.ofFrac (decide (x < 0) != decide (y < 0)) x.natAbs y.natAbs
noncomputable def hueV (size step k : Int) : UInt64 := qF ((k * step).fmod size) size
noncomputable def rgbOk (r g b : UInt64) : Bool :=
  !(Float64.cmp (min3 r g b) (max3 r g b) == some Ordering.eq) && !(Float64.isZero (max3 r g b)) && !(Float64.isZero (Float64.sub (max3 r g b) (min3 r g b))) &&
  !(Float64.isZero (Float64.add (max3 r g b) (min3 r g b))) && !(Float64.isZero (Float64.sub (Float64.sub 4611686018427387904 (max3 r g b)) (min3 r g b)))
noncomputable def okAt (size step k a b : Int) : Bool :=
  let H := qF (k * step) size
  let S := qF (1 + a) 4
  let V := qF (1 + b) 4
  let i := Flt.toInt Float64.truncOf (Float64.mul H 4618441417868443648)
  let c := hsvT H S V i
  !(Float64.isInf H) && !(Float64.isInf S) && !(Float64.isInf V) && !(Float64.cmp S 0 == some Ordering.eq) && Float64.isFinite (Float64.mul H 4618441417868443648) && decide (i.natAbs < 1000) && rgbOk c.1 c.2.1 c.2.2 && hue3 c.1 c.2.1 c.2.2 == hueV size step k
noncomputable def Good (size step : Int) : Prop := (size = 16 ∧ 0 ≤ step ∧ step < 16) ∨ (size = 8 ∧ 0 ≤ step ∧ step < 8) ∨ (size = 32 ∧ 8 ≤ step ∧ step < 24)
theorem qF_D {x y i : Int} (hy : 0 < y) (hx : 0 ≤ x) (h : x * 256 = i * y) (hi : 0 ≤ i) (hb : i ≤ 1000000) : qF x y = D i := by
  unfold qF
  refine frac_D (by omega) ?_ ?_ (by omega)
  · have : (x * 256).natAbs = (i * y).natAbs := by rw [h]
    rwa [Int.natAbs_mul, Int.natAbs_mul] at this
  · simp [show ¬ x < 0 by omega, show ¬ y < 0 by omega, show ¬ i < 0 by omega]
structure ExZ (s v f : Int) : Prop where
  p : v * (256 - s) % 256 = 0
  sf : s * f % 256 = 0
  q : v * (256 - s * f / 256) % 256 = 0
  sg : s * (256 - f) % 256 = 0
  t : v * (256 - s * (256 - f) / 256) % 256 = 0
  a : 0 ≤ s * f / 256 ∧ s * f / 256 ≤ 256
  b : 0 ≤ s * (256 - f) / 256 ∧ s * (256 - f) / 256 ≤ 256
theorem exZ_of {s v f : Int} (h : exZ s v f = true) : ExZ s v f := by
  unfold exZ at h
  simp only [Bool.and_eq_true, decide_eq_true_eq] at h
  obtain ⟨⟨⟨⟨⟨⟨h1, h2⟩, h3⟩, h4⟩, h5⟩, h6⟩, h7⟩ := h
  exact ⟨h1, h2, h3, h4, h5, sane_of h6, sane_of h7⟩
theorem mul_le {a b c d : Int} (h0 : 0 ≤ a) (h1 : a ≤ b) (h2 : 0 ≤ c) (h3 : c ≤ d) : 0 ≤ a * c ∧ a * c ≤ b * d :=
  ⟨Int.mul_nonneg h0 h2, Int.mul_le_mul h1 h3 h2 (Int.le_trans h0 h1)⟩
theorem n53 {x : Int} (h : 0 ≤ x) (h' : x ≤ 1000000) : x.natAbs < 2 ^ 53 := by omega
theorem div53 {x : Int} (h : 0 ≤ x) (h' : x ≤ 1000000) : (x / 256).natAbs < 2 ^ 53 := by omega
theorem mod256 {x : Int} (h : x % 256 = 0) : x = 256 * (x / 256) := by omega
theorem D_mul' {i j : Int} (hi : In i) (hj : In j) (h2 : i * j % 256 = 0) : Float64.mul (D i) (D j) = D (i * j / 256) := by
  have hm := mul_le hi.lo hi.hi hj.lo hj.hi
  exact D_mul hi.sm.n hj.sm.n (div53 hm.1 (Int.le_trans hm.2 (by decide))) hi.lo hj.lo (mod256 h2)
theorem In.comp {x : Int} (h : In x) : In (256 - x) := ⟨Int.sub_nonneg_of_le h.hi, Int.sub_le_self _ h.lo⟩
theorem in256 : Sm 256 := ⟨by decide, by decide⟩
theorem D_comp {x : Int} (h : In x) : Float64.sub (D 256) (D x) = D (256 - x) := D_sub_s in256 h.sm (by decide)
structure N48 (n : Int) : Prop where
  a : (8 * n).natAbs < 2 ^ 53
  b : (48 * n).natAbs < 2 ^ 53
  c : 0 ≤ 8 * n
  d : 0 ≤ 48 * n
  e : (48 * n / 256).natAbs < 1000
  u : 8 * n ≤ 1000000
  g : (256 * (48 * n / 256)).natAbs < 2 ^ 53
  i : (48 * n - 256 * (48 * n / 256)).natAbs < 2 ^ 53
theorem n48 {n : Int} (h : 0 ≤ n) (h' : n ≤ 1000) : N48 n := ⟨by omega, by omega, by omega, by omega, by omega, by omega, by omega, by omega⟩
theorem n48_in (n : Int) : In (48 * n - 256 * (48 * n / 256)) := by
  rw [← Int.emod_def]
  exact ⟨Int.emod_nonneg _ (by decide), Int.le_of_lt (Int.emod_lt_of_pos _ (by decide))⟩
theorem n48_eq (n : Int) : 8 * n * 1536 = 256 * (48 * n) := by omega
theorem hsvT_D {n s v : Int} (hn : N48 n) (hs : In s) (hv : In v) (ex : ExZ s v (48 * n - 256 * (48 * n / 256))) :
    Float64.mul (D (8 * n)) 4618441417868443648 = D (48 * n) ∧ Flt.toInt Float64.truncOf (D (48 * n)) = 48 * n / 256 ∧
    hsvT (D (8 * n)) (D s) (D v) (48 * n / 256) = (D (hsvZ s v (48 * n / 256) (48 * n - 256 * (48 * n / 256))).1, D (hsvZ s v (48 * n / 256) (48 * n - 256 * (48 * n / 256))).2.1, D (hsvZ s v (48 * n / 256) (48 * n - 256 * (48 * n / 256))).2.2) := by
  have e1 : Float64.mul (D (8 * n)) 4618441417868443648 = D (48 * n) := by
    rw [six_D]
    exact D_mul hn.a (by decide) hn.b hn.c (by decide) (n48_eq n)
  refine ⟨e1, D_trunc hn.b hn.d, ?_⟩
  unfold hsvT hsvZ
  dsimp only
  rw [e1, D_ofInt hn.g, D_sub (i := 48 * n) hn.b hn.g hn.i hn.d, one_D]
  have hf := n48_in n
  have hp := ex.p
  have hsf := ex.sf
  have hq := ex.q
  have hsg := ex.sg
  have ht := ex.t
  have ha := In.of ex.a
  have hb := In.of ex.b
  generalize 48 * n - 256 * (48 * n / 256) = f at *
  rw [D_comp hs, D_mul' hv hs.comp hp, D_mul' hs hf hsf, D_comp ha, D_mul' hv ha.comp hq, D_comp hf, D_mul' hs hf.comp hsg, D_comp hb, D_mul' hv hb.comp ht]
  have e6 : (48 * n / 256).fmod 6 = 48 * n / 256 % 6 := Int.fmod_eq_emod_of_nonneg _ (by decide)
  rw [e6]
  clear e1 ex hp hsf hq hsg ht ha hb hs hv hf hn e6
  generalize 48 * n / 256 % 6 = i6
  split
  · rfl
  · split
    · rfl
    · split
      · rfl
      · split
        · rfl
        · split <;> rfl
theorem n32_f (n : Int) : 48 * (n % 32) - 256 * (48 * (n % 32) / 256) = 48 * n - 256 * (48 * n / 256) := by
  rw [← Int.emod_def, ← Int.emod_def, ← Int.mul_emod_mul_of_pos _ _ (show (0 : Int) < 48 by decide)]
  exact Int.emod_emod_of_dvd _ (by decide)
theorem n32_i (n : Int) : 48 * (n % 32) / 256 % 6 = 48 * n / 256 % 6 := by
  have e : 48 * n = 48 * (n % 32) + 256 * (6 * (n / 32)) := by omega
  rw [e, Int.add_mul_ediv_left _ _ (by decide), Int.add_mul_emod_self_left]
theorem n32_8 (n : Int) : 8 * (n % 32) % 256 = 8 * n % 256 := by omega
theorem n32_t (n : Int) : (((n % 32).toNat : Nat) : Int) = n % 32 ∧ (n % 32).toNat < 32 := by omega
theorem n4_t {a : Int} (ha : 1 ≤ a) (ha' : a ≤ 4) : (((a - 1).toNat : Nat) : Int) + 1 = a ∧ (a - 1).toNat < 4 := by omega
theorem chk_at {n a b : Int} (ha : 1 ≤ a) (ha' : a ≤ 4) (hb : 1 ≤ b) (hb' : b ≤ 4) : chkZ n a b = true := by
  have h := List.all_eq_true.1 (List.all_eq_true.1 (List.all_eq_true.1 chkZ_all (n % 32).toNat (List.mem_range.2 (n32_t n).2)) (a - 1).toNat (List.mem_range.2 (n4_t ha ha').2)) (b - 1).toNat (List.mem_range.2 (n4_t hb hb').2)
  rw [(n32_t n).1, (n4_t ha ha').1, (n4_t hb hb').1] at h
  unfold chkZ at h ⊢
  dsimp only at h ⊢
  have hz : ∀ f, hsvZ (64 * a) (64 * b) (48 * (n % 32) / 256) f = hsvZ (64 * a) (64 * b) (48 * n / 256) f := fun f => by
    unfold hsvZ
    rw [n32_i]
  rw [n32_f, hz] at h
  have e8 : 8 * (n % 32) % 256 = 8 * n % 256 := n32_8 n
  rw [e8] at h
  exact h
theorem w16 (x : Int) : x * 256 = 8 * (2 * x) * 16 ∧ x % 16 * 256 = 8 * (2 * x % 32) * 16 := by
  rw [show (32 : Int) = 2 * 16 from rfl, Int.mul_emod_mul_of_pos _ _ (by decide)]
  generalize x % 16 = r
  omega
theorem w8 (x : Int) : x * 256 = 8 * (4 * x) * 8 ∧ x % 8 * 256 = 8 * (4 * x % 32) * 8 := by
  rw [show (32 : Int) = 4 * 8 from rfl, Int.mul_emod_mul_of_pos _ _ (by decide)]
  generalize x % 8 = r
  omega
theorem w32 (x : Int) : x * 256 = 8 * x * 32 ∧ x % 32 * 256 = 8 * (x % 32) * 32 := by omega
theorem wn {x : Int} {m : Int} (h : 0 ≤ x) (h' : x ≤ m) : (0 ≤ 2 * x ∧ 2 * x ≤ 2 * m) ∧ (0 ≤ 4 * x ∧ 4 * x ≤ 4 * m) := by omega
structure Wheel (size step : Int) : Prop where
  s0 : 0 < size
  p0 : 0 ≤ step
  p1 : step < size
  is : (size = 16 ∧ step ≤ 15) ∨ (size = 8 ∧ step ≤ 7) ∨ (size = 32 ∧ step ≤ 23)
theorem Good.w {size step : Int} (hg : Good size step) : Wheel size step := by
  rcases hg with ⟨rfl, h1, h2⟩ | ⟨rfl, h1, h2⟩ | ⟨rfl, h1, h2⟩
  · exact ⟨by decide, h1, h2, .inl ⟨rfl, Int.le_of_lt_add_one h2⟩⟩
  · exact ⟨by decide, h1, h2, .inr (.inl ⟨rfl, Int.le_of_lt_add_one h2⟩)⟩
  · exact ⟨by decide, Int.le_trans (by decide) h1, Int.lt_trans h2 (by decide), .inr (.inr ⟨rfl, Int.le_of_lt_add_one h2⟩)⟩
theorem wheel {size step k : Int} (hg : Good size step) (h0 : 0 ≤ k) (h1 : k ≤ size) : ∃ n, 0 ≤ n ∧ n ≤ 1000 ∧ (k * step) * 256 = (8 * n) * size ∧ ((k * step).fmod size) * 256 = (8 * (n % 32)) * size := by
  have hw := hg.w
  rw [Int.fmod_eq_emod_of_nonneg _ (Int.le_of_lt hw.s0)]
  rcases hw.is with ⟨rfl, h⟩ | ⟨rfl, h⟩ | ⟨rfl, h⟩
  · have hm := mul_le h0 h1 hw.p0 h
    have hn := (wn hm.1 hm.2).1
    exact ⟨2 * (k * step), hn.1, Int.le_trans hn.2 (by decide), w16 _⟩
  · have hm := mul_le h0 h1 hw.p0 h
    have hn := (wn hm.1 hm.2).2
    exact ⟨4 * (k * step), hn.1, Int.le_trans hn.2 (by decide), w8 _⟩
  · have hm := mul_le h0 h1 hw.p0 h
    exact ⟨k * step, hm.1, Int.le_trans hm.2 (by decide), w32 _⟩
theorem in64 {a : Int} (h : 0 ≤ a) (h' : a < 4) : In (64 * (1 + a)) ∧ (0 ≤ 1 + a) ∧ ((1 + a) * 256 = 64 * (1 + a) * 4) ∧ (1 ≤ 1 + a ∧ 1 + a ≤ 4) ∧ 64 * (1 + a) ≤ 1000000 ∧ 64 * (1 + a) ≠ 0 :=
  ⟨⟨by omega, by omega⟩, by omega, by omega, by omega, by omega, by omega⟩
theorem m32 (n : Int) : 0 ≤ 8 * (n % 32) ∧ 8 * (n % 32) < 256 := by omega
theorem two_ne {x y : Int} (h : x + y < 512) : 512 - x - y ≠ 0 := by omega
theorem In.plus {x y : Int} (h : In x) (h' : In y) : Sm (x + y) ∧ Sm (512 - x) ∧ Sm (512 - x - y) ∧ 0 ≤ 512 - x := by
  obtain ⟨h1, h2⟩ := h
  obtain ⟨h3, h4⟩ := h'
  exact ⟨⟨by omega, by omega⟩, ⟨by omega, by omega⟩, ⟨by omega, by omega⟩, by omega⟩
theorem rgbOk_D {r g b : Int} (z : RgbZ r g b) : rgbOk (D r) (D g) (D b) = true := by
  unfold rgbOk
  have r0 := In.of z.r0
  have g0 := In.of z.g0
  have b0 := In.of z.b0
  have hx := max3Z_in r0 g0 b0
  have hn := min3Z_in r0 g0 b0
  have hlt := z.lt
  have htwo := z.two
  rw [D_max3 r0.sm.n g0.sm.n b0.sm.n, D_min3 r0.sm.n g0.sm.n b0.sm.n]
  generalize max3Z r g b = mx at *
  generalize min3Z r g b = mn at *
  clear z r0 g0 b0
  rw [two_D, D_eq hn.sm.n hx.sm.n, D_sub_s hx.sm hn.sm hx.lo, D_add_s hx.sm hn.sm, D_sub_s ⟨by decide, by decide⟩ hx.sm (by decide), D_sub_s (hx.plus hn).2.1 hn.sm (hx.plus hn).2.2.2]
  rw [D_isZero hx.sm.n, D_isZero (hx.sub hn).n, D_isZero (hx.plus hn).1.n, D_isZero (hx.plus hn).2.2.1.n]
  have hx0 := Int.lt_of_le_of_lt hn.lo hlt
  have q3 : decide (mn = mx) = false := decide_eq_false (Int.ne_of_lt hlt)
  have q4 : decide (mx = 0) = false := decide_eq_false (Int.ne_of_gt hx0)
  have q5 : decide (mx - mn = 0) = false := decide_eq_false (Int.ne_of_gt (Int.sub_pos_of_lt hlt))
  have q6 : decide (mx + mn = 0) = false := decide_eq_false (Int.ne_of_gt (Int.add_pos_of_pos_of_nonneg hx0 hn.lo))
  have q7 : decide (512 - mx - mn = 0) = false := decide_eq_false (two_ne htwo)
  rw [q3, q4, q5, q6, q7]
  rfl
theorem okAt_all {size step k a b : Int} (hg : Good size step) (h0 : 0 ≤ k) (h1 : k ≤ size) (ha : 0 ≤ a) (ha' : a < 4) (hb : 0 ≤ b) (hb' : b < 4) : okAt size step k a b = true := by
  have hs := hg.w.s0
  have hst := hg.w.p0
  obtain ⟨n, hn, hn', e1, e2⟩ := wheel hg h0 h1
  have hN := n48 hn hn'
  have hA := in64 ha ha'
  have hB := in64 hb hb'
  have hM := m32 n
  have hH : qF (k * step) size = D (8 * n) := qF_D hs (Int.mul_nonneg h0 hst) e1 hN.c hN.u
  have hS : qF (1 + a) 4 = D (64 * (1 + a)) := qF_D (by decide) hA.2.1 hA.2.2.1 hA.1.lo hA.2.2.2.2.1
  have hV : qF (1 + b) 4 = D (64 * (1 + b)) := qF_D (by decide) hB.2.1 hB.2.2.1 hB.1.lo hB.2.2.2.2.1
  have hW : hueV size step k = D (8 * (n % 32)) := by
    unfold hueV
    exact qF_D hs (by rw [Int.fmod_eq_emod_of_nonneg _ (Int.le_of_lt hs)]; exact Int.emod_nonneg _ (Int.ne_of_gt hs)) e2 hM.1 (Int.le_trans (Int.le_of_lt hM.2) (by decide))
  have hc := chk_at (n := n) (a := 1 + a) (b := 1 + b) hA.2.2.2.1.1 hA.2.2.2.1.2 hB.2.2.2.1.1 hB.2.2.2.1.2
  unfold chkZ at hc
  dsimp only at hc
  simp only [Bool.and_eq_true, decide_eq_true_eq] at hc
  obtain ⟨⟨hx, hr⟩, hh⟩ := hc
  have ex := exZ_of hx
  have z := rgbZ_of hr
  obtain ⟨t1, t2, t3⟩ := hsvT_D hN hA.1 hB.1 ex
  unfold okAt
  dsimp only
  rw [hH, hS, hV, hW, t1, t2, t3]
  dsimp only
  clear hx hr ex t1 t2 t3 hH hS hV hW e1 e2
  generalize hsvZ (64 * (1 + a)) (64 * (1 + b)) (48 * n / 256) (48 * n - 256 * (48 * n / 256)) = c at *
  rw [D_hue z, hh, rgbOk_D z]
  have hz0 : (0 : UInt64) = D 0 := by decide +kernel
  rw [hz0, D_eq hA.1.sm.n (by decide), (D_fin hN.a).2, (D_fin hA.1.sm.n).2, (D_fin hB.1.sm.n).2, (D_fin hN.b).1]
  rw [decide_eq_true hN.e, decide_eq_false hA.2.2.2.2.2, ← n32_8 n, Int.emod_eq_of_lt hM.1 hM.2]
  simp
theorem lt16 {x s i j : Int} (h0 : 0 ≤ s) (h1 : s < 16) (ei : x % 16 * 256 = i * 16) (ej : (x + s) % 16 * 256 = j * 16) : j < i ↔ x / 16 < (x + s) / 16 := by omega
theorem lt8 {x s i j : Int} (h0 : 0 ≤ s) (h1 : s < 8) (ei : x % 8 * 256 = i * 8) (ej : (x + s) % 8 * 256 = j * 8) : j < i ↔ x / 8 < (x + s) / 8 := by omega
theorem lt32 {x s i j : Int} (h0 : 0 ≤ s) (h1 : s < 32) (ei : x % 32 * 256 = i * 32) (ej : (x + s) % 32 * 256 = j * 32) : j < i ↔ x / 32 < (x + s) / 32 := by omega
theorem hue_lt {size step k : Int} (hg : Good size step) (h0 : 0 ≤ k) (h1 : k < size) : (Float64.cmp (hueV size step (k + 1)) (hueV size step k) == some .lt) = decide ((0 + k * step).fdiv size < (0 + (k + 1) * step).fdiv size) := by
  have hw := hg.w
  have hs := hw.s0
  have hV : ∀ j, 0 ≤ j → j ≤ size → ∃ i, hueV size step j = D i ∧ ((j * step) % size) * 256 = i * size ∧ i.natAbs < 2 ^ 53 := fun j hj hj' => by
    obtain ⟨n, hn, hn', e1, e2⟩ := wheel hg hj hj'
    have hM := m32 n
    refine ⟨8 * (n % 32), ?_, ?_, n53 hM.1 (Int.le_trans (Int.le_of_lt hM.2) (by decide))⟩
    · unfold hueV
      exact qF_D hs (by rw [Int.fmod_eq_emod_of_nonneg _ (Int.le_of_lt hs)]; exact Int.emod_nonneg _ (Int.ne_of_gt hs)) e2 hM.1 (Int.le_trans (Int.le_of_lt hM.2) (by decide))
    · rw [Int.fmod_eq_emod_of_nonneg _ (Int.le_of_lt hs)] at e2
      exact e2
  obtain ⟨i, hi, ei, li⟩ := hV k h0 (Int.le_of_lt h1)
  obtain ⟨j, hj, ej, lj⟩ := hV (k + 1) (Int.le_add_one h0) h1
  rw [hi, hj, D_lt lj li]
  refine decide_eq_decide.2 ?_
  rw [Int.zero_add, Int.zero_add, Int.fdiv_eq_ediv_of_nonneg _ (Int.le_of_lt hs), Int.fdiv_eq_ediv_of_nonneg _ (Int.le_of_lt hs)]
  rw [Int.add_mul, Int.one_mul] at ej ⊢
  have p0 := hw.p0
  have p1 := hw.p1
  rcases hw.is with ⟨rfl, _⟩ | ⟨rfl, _⟩ | ⟨rfl, _⟩
  · exact lt16 p0 p1 ei ej
  · exact lt8 p0 p1 ei ej
  · exact lt32 p0 p1 ei ej
structure OkAt (size step k a b : Int) (H S V : UInt64) (c : UInt64 × UInt64 × UInt64) : Prop where
  iH : ¬ Float64.isInf H = true
  iS : ¬ Float64.isInf S = true
  iV : ¬ Float64.isInf V = true
  s : (Float64.cmp S 0 == some Ordering.eq) = false
  fin : Float64.isFinite (Float64.mul H 4618441417868443648) = true
  i : (Flt.toInt Float64.truncOf (Float64.mul H 4618441417868443648)).natAbs < 1000
  eq : hsvT H S V (Flt.toInt Float64.truncOf (Float64.mul H 4618441417868443648)) = c
  r1 : (Float64.cmp (min3 c.1 c.2.1 c.2.2) (max3 c.1 c.2.1 c.2.2) == some Ordering.eq) = false
  r2 : ¬ Float64.isZero (max3 c.1 c.2.1 c.2.2) = true
  r3 : ¬ Float64.isZero (Float64.sub (max3 c.1 c.2.1 c.2.2) (min3 c.1 c.2.1 c.2.2)) = true
  r4 : ¬ Float64.isZero (Float64.add (max3 c.1 c.2.1 c.2.2) (min3 c.1 c.2.1 c.2.2)) = true
  r5 : ¬ Float64.isZero (Float64.sub (Float64.sub 4611686018427387904 (max3 c.1 c.2.1 c.2.2)) (min3 c.1 c.2.1 c.2.2)) = true
  hue : hue3 c.1 c.2.1 c.2.2 = hueV size step k
theorem okAt_is {size step k a b : Int} (h : okAt size step k a b = true) : ∃ c, OkAt size step k a b (qF (k * step) size) (qF (1 + a) 4) (qF (1 + b) 4) c := by
  refine ⟨hsvT (qF (k * step) size) (qF (1 + a) 4) (qF (1 + b) 4) (Flt.toInt Float64.truncOf (Float64.mul (qF (k * step) size) 4618441417868443648)), ?_⟩
  unfold okAt rgbOk at h
  simp only [Bool.and_eq_true, Bool.not_eq_true', decide_eq_true_eq, beq_iff_eq] at h
  obtain ⟨⟨⟨⟨⟨⟨⟨g1, g2⟩, g3⟩, h1⟩, h2⟩, h3⟩, ⟨⟨⟨h4, h5⟩, h6⟩, h7⟩, h8⟩, h9⟩ := h
  exact ⟨by simp [g1], by simp [g2], by simp [g3], h1, h2, h3, rfl, h4, by simp [h5], by simp [h6], by simp [h7], by simp [h8], h9⟩
theorem hsv_ok {size step k a b : Int} {H S V : UInt64} {c : UInt64 × UInt64 × UInt64} (ok : OkAt size step k a b H S V c) (w : World) (news : List (Addr × Obj)) (th ts tv : Tok) :
    Claim 2 w 35 [.float H th, .float S ts, .float V tv] news (RetRgb news c) := by
  have h := hsv_claim w news H S V th ts tv ok.s ok.fin ok.i
  rw [ok.eq] at h
  exact h
theorem rgb_hsv_ok {size step k a b : Int} {H S V : UInt64} {c : UInt64 × UInt64 × UInt64} (ok : OkAt size step k a b H S V c) (w : World) (news : List (Addr × Obj)) (t u v : Tok) :
    Claim 2 w 28 [.float c.1 t, .float c.2.1 u, .float c.2.2 v] news (RetHue news (hueV size step k)) := by
  have h := rgb_hsv_claim w news c.1 c.2.1 c.2.2 t u v ok.r1 ok.r2 ok.r3
  rw [ok.hue] at h
  exact h
theorem rgb_hls_ok {size step k a b : Int} {H S V : UInt64} {c : UInt64 × UInt64 × UInt64} (ok : OkAt size step k a b H S V c) (w : World) (news : List (Addr × Obj)) (t u v : Tok) :
    Claim 2 w 21 [.float c.1 t, .float c.2.1 u, .float c.2.2 v] news (RetHue news (hueV size step k)) := by
  have h := rgb_hls_claim w news c.1 c.2.1 c.2.2 t u v ok.r1 ok.r4 ok.r3 ok.r5
  rw [ok.hue] at h
  exact h
end Mine
end
section
theorem Mine.fresh_CSt : True := by
  w_top off
  k_with_none
  trivial
open PySem PySem.W PyProof.Rows PySem.Calls PySem.Spec
namespace Mine
noncomputable def sgn (first size step k : Int) : Str := if (first + k * step).fdiv size < (first + (k + 1) * step).fdiv size then Str.ofString "b" else Str.ofString "a"
noncomputable def stairs (first size step count : Int) : Str := Txt.join (Str.ofString "") ((rangeKs 0 count.toNat).map (sgn first size step))
theorem sgn_len (first size step k : Int) : (sgn first size step k).length = 1 := by
  unfold sgn
  split <;> decide +kernel
theorem sgn_sum (first size step : Int) (l : List Int) : (((l.map (sgn first size step)).map (·.length)).sum) = l.length := by
  induction l with
  | nil => rfl
  | cons x l ih => simp only [List.map_cons, List.sum_cons, sgn_len, ih, List.length_cons]; omega

noncomputable abbrev RetStr (news : List (Addr × Obj)) (x : Str) (h₀ : Heap) (L : Addr) (m : Str → Option Value) (s : Shared) (Q : Value → Shared → Prop) : Prop :=
  ∀ (t : Tok) (h' : Heap) (tk' : Nat), Fr h₀ L h' m → News h₀ L h' news → Q (.str x t) { s with heap := h', toks := tk' }

theorem size_of {count : Int} (h7 : 0 ≤ count) : Builtin.Range.rangeSize 0 count 1 = ((count.toNat : Nat) : Int) := by
  unfold Builtin.Range.rangeSize
  split <;> split <;> omega
theorem small_of {count : Int} (h7 : 0 ≤ count) (h8 : count ≤ 64) : Builtin.Range.small 0 count 1 = true := by
  unfold Builtin.Range.small
  rw [size_of h7]
  unfold Builtin.Range.rangeFitsLong
  simp
  omega

local macro_rules | `(tactic| k_all) => `(tactic| assumption)

set_option maxRecDepth 100000 in
set_option maxHeartbeats 400000 in
theorem st_claim (w : World) (news : List (Addr × Obj)) (first size step count : Int) (t1 t2 t3 t4 : Tok)
    (h1 : 0 < size) (h2 : size ≤ 64) (h3 : 0 ≤ step) (h4 : step ≤ 64) (h5 : 0 ≤ first) (h6 : first ≤ 64) (h7 : 0 ≤ count) (h8 : count ≤ 64) :
    Claim 2 w 63 [.int first t1, .int size t2, .int step t3, .int count t4] news (RetStr news (stairs first size step count)) := by
  unfold Claim
  k_fill
  intro p loose mean mg mb dp un gd cn cs a ccd cl outer A₀ base h₀ L m s Q E B F X N T hk hd hu hret
  refine wpAny_call ?_
  k_dflt cell_enter
  (repeat' (first | (k_unfold; (try dsimp only)) | (k_end; kc_close) | ((fail_if_success (with_reducible show wpAny _ _ (pyIter _) _ _ _)); walk1) | ((fail_if_success (with_reducible show wpAny _ _ (pyIter _) _ _ _)); dsimp only; walk1) | (leave1; walk_say "STEP leave1"; (try dsimp only)) | fail "no step"))
  rename_i l' h2' l1 h1' F' N' h'' tk2 t₁ u₁ v₁ R F2 N2 K2
  clear F' N' K2
  refine kst_range (σ := List Value × Nat) (a₀ := 0) (b₀ := count) (n := count.toNat) (fun c => (l', W.listOf c.1.toArray c.2) :: news) (fun _ => []) (fun _ => True) [] (fun pre c => StrsAre c.1 (pre.map (sgn first size step))) ([], 0) rfl R ?hsmall ?hn F2 N2 trivial (fun _ h => nomatch h) .nil ?turn ?done
  case hsmall => exact small_of h7 h8
  case hn => exact size_of h7
  case turn =>
    rintro ⟨vs, n⟩ pre k t u h tk own hk hlt hoff _ hP F3 N3
    dsimp only [kstB] at F3
    dsimp only at N3 hP
    rw [List.cons_append] at N3
    have hne : ∀ p ∈ news ++ own, p.1 ≠ l' := fun p hp => (List.mem_append.mp hp).elim (fun h => Nat.ne_of_lt (l1 p h)) (fun h => hoff p h l' (List.Mem.head _))
    have hlen := StrsAre.length hP
    rw [List.length_map] at hlen
    have hsz : vs.length ≤ 64 := by omega
    clear F2 N2
    (repeat' (first | (k_unfold; (try dsimp only)) | (k_end; kc_close) | ((fail_if_success (with_reducible show wpAny _ _ (pyIter _) _ _ _)); walk1) | ((fail_if_success (with_reducible show wpAny _ _ (pyIter _) _ _ _)); dsimp only; walk1) | (leave1; walk_say "STEP leave1"; (try dsimp only)) | fail "no step"))
    · rename_i h5 F4 N4
      rw [List.push_toArray] at N4
      refine kst_end (σ := List Value × Nat) (vs ++ [_], n + 1) F4 N4 (List.forall_mem_cons.mpr ⟨.head _, fun p hp => .tail _ (List.mem_append.mpr (.inl hp))⟩) (fun p hp => .tail _ (List.mem_append.mpr (.inr hp))) rfl trivial (fun _ h => nomatch h) ?_ ?_
      · intro z hz _ _
        simp [hz]
      · rw [List.map_append]
        refine StrsAre.append' hP ?_
        have e : sgn first size step k = Str.ofString "b" := by unfold sgn; rw [if_pos (by assumption)]
        rw [List.map_cons, List.map_nil, e]
        exact .cons _ _ .nil
    · rename_i h5 F4 N4
      rw [List.push_toArray] at N4
      refine kst_end (σ := List Value × Nat) (vs ++ [_], n + 1) F4 N4 (List.forall_mem_cons.mpr ⟨.head _, fun p hp => .tail _ (List.mem_append.mpr (.inl hp))⟩) (fun p hp => .tail _ (List.mem_append.mpr (.inr hp))) rfl trivial (fun _ h => nomatch h) ?_ ?_
      · intro z hz _ _
        simp [hz]
      · rw [List.map_append]
        refine StrsAre.append' hP ?_
        have e : sgn first size step k = Str.ofString "a" := by unfold sgn; rw [if_neg (by assumption)]
        rw [List.map_cons, List.map_nil, e]
        exact .cons _ _ .nil
  case done =>
    rintro ⟨vs, n⟩ u h tk _ hP F3 N3
    dsimp only [kstB] at F3
    dsimp only at N3 hP
    clear F2 N2
    (repeat' (first | (k_unfold; (try dsimp only)) | (k_end; kc_close) | ((fail_if_success (with_reducible show wpAny _ _ (pyIter _) _ _ _)); walk1) | ((fail_if_success (with_reducible show wpAny _ _ (pyIter _) _ _ _)); dsimp only; walk1) | (leave1; walk_say "STEP leave1"; (try dsimp only)) | fail "no step"))
    refine join_listC (News.isList N3 (.head _)) hP (by decide +kernel) ?_ ?_
    · rw [sgn_sum, List.length_map]
      simp only [rangeKs_length]
      omega
    intro t' k'
    (repeat' (first | (k_unfold; (try dsimp only)) | (k_end; kc_close) | ((fail_if_success (with_reducible show wpAny _ _ (pyIter _) _ _ _)); walk1) | ((fail_if_success (with_reducible show wpAny _ _ (pyIter _) _ _ _)); dsimp only; walk1) | (leave1; walk_say "STEP leave1"; (try dsimp only)) | fail "no step"))
    rename_i kF kN _ _
    exact hret _ _ _ kF (fun p hp => kN p (.tail _ hp))
end Mine
end
section
theorem Mine.fresh_CTo : True := by
  w_top off
  k_with_none
  trivial
open PySem PySem.W PyProof.Rows PySem.Calls PySem.Spec
namespace Mine
theorem ltOf {l : List (Addr × Obj)} {p : Addr × Obj} {x : Nat} (hp : p ∈ l) (h : ∀ p ∈ l, p.1 < x) : @LT.lt Nat _ p.1 x := h p hp

local macro_rules | `(tactic| k_all) => `(tactic| first | assumption | (intro pq hpq; (have hq := ltOf hpq (by assumption)); (refine neN ?_); omega))

theorem fmod4 (x : Int) : 0 ≤ x.fmod 4 ∧ x.fmod 4 < 4 := ⟨fmod_lo _ (by decide), fmod_hi _ (by decide)⟩
inductive FlsAre : List Value → List UInt64 → Prop
  | nil : FlsAre [] []
  | cons (x t) {vs xs} : FlsAre vs xs → FlsAre (.float x t :: vs) (x :: xs)

theorem FlsAre.append {vs us : List Value} {xs ys : List UInt64} (h : FlsAre vs xs) (h' : FlsAre us ys) : FlsAre (vs ++ us) (xs ++ ys) := by
  induction h with
  | nil => exact h'
  | cons x t _ ih => exact .cons x t ih
theorem FlsAre.length {vs : List Value} {xs : List UInt64} (h : FlsAre vs xs) : vs.length = xs.length := by
  induction h with
  | nil => rfl
  | cons x t _ ih => simp [ih]
theorem FlsAre.at {vs : List Value} {xs : List UInt64} (h : FlsAre vs xs) : ∀ (i : Nat), i < xs.length → ∃ t, vs[i]? = some (.float (xs.getD i 0) t) := by
  induction h with
  | nil => intro i hi; exact absurd hi (Nat.not_lt_zero _)
  | cons x t _ ih =>
    intro i hi
    cases i with
    | zero => exact ⟨t, rfl⟩
    | succ i => exact ih i (Nat.lt_of_succ_lt_succ hi)
theorem fls_range {vs : List Value} {f : Int → UInt64} {n : Nat} (h : FlsAre vs ((rangeKs 0 n).map f)) {k : Int} (h0 : 0 ≤ k) (h1 : k < (n : Int)) : ∃ t, vs[k.toNat]? = some (.float (f k) t) := by
  obtain ⟨t, e⟩ := h.at k.toNat (by rw [List.length_map, rangeKs_length]; omega)
  refine ⟨t, ?_⟩
  rw [e]
  have : ((rangeKs 0 n).map f).getD k.toNat 0 = f k := by
    have hk : (rangeKs 0 n)[k.toNat]? = some k := by
      have : k.toNat < n := by omega
      simp [rangeKs, this]
      omega
    simp [List.getD_eq_getElem?_getD, hk]
  rw [this]
theorem in_range {k s : Int} (h : k < 0 + ((s.toNat : Nat) : Int)) (h0 : 0 < s) (h1 : s ≤ 32) : k < s ∧ k + 1 < (((s + 1).toNat : Nat) : Int) ∧ k < (((s + 1).toNat : Nat) : Int) ∧ k + 1 < 2 ^ 63 ∧ k < 2 ^ 63 := by omega
theorem ints_at {vs : List Value} {ds : List Int} (h : IntsAre vs ds) : ∀ (i : Nat), i < ds.length → ∃ d t, vs[i]? = some (.int d t) := by
  induction h with
  | nil => intro i hi; exact absurd hi (Nat.not_lt_zero _)
  | cons n t _ ih =>
    intro i hi
    cases i with
    | zero => exact ⟨n, t, rfl⟩
    | succ i => exact ih i (Nat.lt_of_succ_lt_succ hi)

set_option maxRecDepth 100000 in
set_option maxHeartbeats 8000000 in
theorem told_claim (w : World) (news : List (Addr × Obj)) (dl : Addr) (vs : List Value) (nn : Nat) (ds : List Int) (size step : Int) (t2 t3 : Tok)
    (hdl : (dl, W.listOf vs.toArray nn) ∈ news) (hds : IntsAre vs ds) (hd0 : ds.length ≠ 0) (hd9 : ds.length ≤ 9)
    (hg : Good size step) :
    Claim 4 w 68 [.ref dl, .int size t2, .int step t3] news (RetStr news (stairs 0 size step size)) := by
  have h1 : 0 < size := by rcases hg with h | h | h <;> omega
  have h2 : size ≤ 32 := by rcases hg with h | h | h <;> omega
  have h3 : 0 ≤ step := by rcases hg with h | h | h <;> omega
  have h4 : step ≤ 32 := by rcases hg with h | h | h <;> omega
  unfold Claim
  k_fill
  intro p loose mean mg mb dp un gd cn cs a ccd cl outer A₀ base h₀ L m s Q E B F X N T hk hd hu hret
  refine wpAny_call ?_
  k_dflt (refine' code_defC ?k1 ?k2 ?k3 ?k4 ?k5 ?kA ?kF ?kK ?k6 ?k7 ?k8 ?k9 ?kB ?kD ?_ ?c2 ?c3 ?c4; (case kA => exact rfl); (case kF => exact rfl); (case kK => assumption); (case k1 => k_asm); (case k2 => k_asm); (case k3 => k_asm); (case k4 => k_asm); (case k5 => k_asm); (case k6 => k_is); (case k7 => k_is); (case k8 => ktr_room); (case k9 => exact BindsTo.of_eq rfl); (case kB => exact rfl); (case kD => decide +kernel); (case c2 => exact rfl); (case c3 => exact rfl); (case c4 => exact rfl); k_whole; intro g' L' h3' tk' cells' FG' F' N' Y' B' X' T' l0; (try k_lt l0); k_cells Y'; (try simp only [List.cons_append, List.nil_append] at N'); (try dsimp only); (try k_lift B'); (try k_fold))
  (repeat' (first | (k_unfold; (try dsimp only)) | (k_end; kc_close) | ((fail_if_success (first | (with_reducible show wpAny _ _ (pyIter _) _ _ _) | (with_reducible show wpAny _ _ (call (Value.ref _) _) _ _ _) | (with_reducible show LCg.CompSrc _ _ _ _ _ _ _ _ _ _ _ _ _ _))); walk1) | ((fail_if_success (first | (with_reducible show wpAny _ _ (pyIter _) _ _ _) | (with_reducible show wpAny _ _ (call (Value.ref _) _) _ _ _) | (with_reducible show LCg.CompSrc _ _ _ _ _ _ _ _ _ _ _ _ _ _))); dsimp only; walk1) | (leave1; walk_say "STEP leave1"; (try dsimp only)) | fail "no step"))
  rename_i o1 d1 l' h2' l1 h1' o' F' N' d' h'' tk2 t₁ u₁ v₁ R F2 N2 K2
  clear F' N' K2
  refine kst_range (σ := List Value × Nat) (a₀ := 0) (b₀ := size + 1) (n := (size + 1).toNat) (fun c => (l', W.listOf c.1.toArray c.2) :: (L' + 1, o') :: news) (fun _ => []) (fun _ => True) [Str.ofString "d", Str.ofString "colour"] (fun pre c => FlsAre c.1 (pre.map (hueV size step))) ([], 0) rfl R ?hsmall ?hn F2 N2 trivial (fun _ h => nomatch h) .nil ?turn ?done
  case hsmall => exact small_of (by omega) (by omega)
  case hn => exact size_of (by omega)
  case turn =>
    rintro ⟨vs', n⟩ pre k t u h tk own hk hlt hoff _ hP F3 N3
    dsimp only [kstB] at F3
    dsimp only at N3 hP
    rw [List.cons_append, List.cons_append] at N3
    have hMk := kstMark
    have hne : ∀ p ∈ news ++ own, p.1 ≠ l' := fun p hp => (List.mem_append.mp hp).elim (fun h => by have := ltOf h l0; (refine neN ?_); omega) (fun h => hoff p h l' (List.Mem.head _))
    clear F2 N2
    (repeat' (first | (k_unfold; (try dsimp only)) | (k_end; kc_close) | ((fail_if_success (first | (with_reducible show wpAny _ _ (pyIter _) _ _ _) | (with_reducible show wpAny _ _ (call (Value.ref _) _) _ _ _) | (with_reducible show LCg.CompSrc _ _ _ _ _ _ _ _ _ _ _ _ _ _))); walk1) | ((fail_if_success (first | (with_reducible show wpAny _ _ (pyIter _) _ _ _) | (with_reducible show wpAny _ _ (call (Value.ref _) _) _ _ _) | (with_reducible show LCg.CompSrc _ _ _ _ _ _ _ _ _ _ _ _ _ _))); dsimp only; walk1) | (leave1; walk_say "STEP leave1"; (try dsimp only)) | fail "no step"))
    have hmem : (dl, W.listOf vs.toArray nn) ∈ (l', W.listOf vs'.toArray n) :: (L' + 1, o') :: (news ++ own) := .tail _ (.tail _ (List.mem_append.mpr (.inl hdl)))
    have hka : k ≤ size := by omega
    have hlen := FlsAre.length hP
    rw [List.length_map] at hlen
    have hd4 := fmod4 ((ds.getD (k.fmod (ds.length : Int)).toNat 0).fdiv 96)
    have hd5 := fmod4 (((ds.getD (k.fmod (ds.length : Int)).toNat 0).fdiv 96).fdiv 4)
    obtain ⟨c, ok⟩ := okAt_is (okAt_all hg (by omega) hka hd4.1 hd4.2 hd5.1 hd5.2)
    have iH : ¬Float64.isInf (Float64.ofFrac (decide (k * step < 0) != decide (size < 0)) (k * step).natAbs size.natAbs) = true := ok.iH
    have iS : ¬Float64.isInf (Float64.ofFrac (decide (1 + ((ds.getD (k.fmod (ds.length : Int)).toNat 0).fdiv 96).fmod 4 < 0) != decide ((4 : Int) < 0)) (1 + ((ds.getD (k.fmod (ds.length : Int)).toNat 0).fdiv 96).fmod 4).natAbs (Int.natAbs 4)) = true := ok.iS
    have iV : ¬Float64.isInf (Float64.ofFrac (decide (1 + (((ds.getD (k.fmod (ds.length : Int)).toNat 0).fdiv 96).fdiv 4).fmod 4 < 0) != decide ((4 : Int) < 0)) (1 + (((ds.getD (k.fmod (ds.length : Int)).toNat 0).fdiv 96).fdiv 4).fmod 4).natAbs (Int.natAbs 4)) = true := ok.iV
    refine kst_len N3 hmem (IntsAre.length hds) (by omega) ?_
    (repeat' (first | (k_unfold; (try dsimp only)) | (k_end; kc_close) | ((fail_if_success (first | (with_reducible show wpAny _ _ (pyIter _) _ _ _) | (with_reducible show wpAny _ _ (call (Value.ref _) _) _ _ _) | (with_reducible show LCg.CompSrc _ _ _ _ _ _ _ _ _ _ _ _ _ _))); walk1) | ((fail_if_success (first | (with_reducible show wpAny _ _ (pyIter _) _ _ _) | (with_reducible show wpAny _ _ (call (Value.ref _) _) _ _ _) | (with_reducible show LCg.CompSrc _ _ _ _ _ _ _ _ _ _ _ _ _ _))); dsimp only; walk1) | (leave1; walk_say "STEP leave1"; (try dsimp only)) | fail "no step"))
    rename Fr _ _ _ _ => F4
    rename News _ _ _ _ => N4
    k_dflt (refine' Claim.use (hsv_ok ok w _ _ _ _) ?k1 ?k2 ?k3 ?k4 ?k5 ?kK ?kd ?ku ?_)
    (((case k1 => k_asm); (case k2 => k_asm); (case k3 => k_asm); (case k4 => k_asm); (case k5 => k_asm); (case kK => exact rfl); (case kd => ktr_room); (case ku => ktr_units); k_whole))
    intro ca ct cu cv hc tkc Fc Nc lc
    clear F4 N4
    (repeat' (first | (k_unfold; (try dsimp only)) | (k_end; kc_close) | ((fail_if_success (first | (with_reducible show wpAny _ _ (pyIter _) _ _ _) | (with_reducible show wpAny _ _ (call (Value.ref _) _) _ _ _) | (with_reducible show LCg.CompSrc _ _ _ _ _ _ _ _ _ _ _ _ _ _))); walk1) | ((fail_if_success (first | (with_reducible show wpAny _ _ (pyIter _) _ _ _) | (with_reducible show wpAny _ _ (call (Value.ref _) _) _ _ _) | (with_reducible show LCg.CompSrc _ _ _ _ _ _ _ _ _ _ _ _ _ _))); dsimp only; walk1) | (leave1; walk_say "STEP leave1"; (try dsimp only)) | fail "no step"))
    · rename Fr _ _ _ _ => F4
      rename News _ _ _ _ => N4
      k_dflt (refine' Claim.use (rgb_hsv_ok ok w _ _ _ _) ?k1 ?k2 ?k3 ?k4 ?k5 ?kK ?kd ?ku ?_)
      (((case k1 => k_asm); (case k2 => k_asm); (case k3 => k_asm); (case k4 => k_asm); (case k5 => k_asm); (case kK => exact rfl); (case kd => ktr_room); (case ku => ktr_units); k_whole))
      intro ca2 ct2 cu2 cv2 hc2 tkc2 Fc2 Nc2 lc2
      clear F4 N4
      (repeat' (first | (k_unfold; (try dsimp only)) | (k_end; kc_close) | ((fail_if_success (first | (with_reducible show wpAny _ _ (pyIter _) _ _ _) | (with_reducible show wpAny _ _ (call (Value.ref _) _) _ _ _) | (with_reducible show LCg.CompSrc _ _ _ _ _ _ _ _ _ _ _ _ _ _))); walk1) | ((fail_if_success (first | (with_reducible show wpAny _ _ (pyIter _) _ _ _) | (with_reducible show wpAny _ _ (call (Value.ref _) _) _ _ _) | (with_reducible show LCg.CompSrc _ _ _ _ _ _ _ _ _ _ _ _ _ _))); dsimp only; walk1) | (leave1; walk_say "STEP leave1"; (try dsimp only)) | fail "no step"))
      refine append_K Fc2 Nc2 (.tail (Nat.ne_of_gt (lc2 (l', _) (.tail _ (.head _)))) (.tail (Nat.ne_of_gt (lc (l', _) (.head _))) (.head (List.forall_mem_cons.mpr ⟨Nat.ne_of_lt l1.1, hne⟩)))) ?_ (by rw [List.size_toArray, sizeLine_eq]; omega)
      intro h6 F6 N6
      clear Fc2 Nc2
      (repeat' (first | (k_unfold; (try dsimp only)) | (k_end; kc_close) | ((fail_if_success (first | (with_reducible show wpAny _ _ (pyIter _) _ _ _) | (with_reducible show wpAny _ _ (call (Value.ref _) _) _ _ _) | (with_reducible show LCg.CompSrc _ _ _ _ _ _ _ _ _ _ _ _ _ _))); walk1) | ((fail_if_success (first | (with_reducible show wpAny _ _ (pyIter _) _ _ _) | (with_reducible show wpAny _ _ (call (Value.ref _) _) _ _ _) | (with_reducible show LCg.CompSrc _ _ _ _ _ _ _ _ _ _ _ _ _ _))); dsimp only; walk1) | (leave1; walk_say "STEP leave1"; (try dsimp only)) | fail "no step"))
      rw [List.push_toArray] at N6
      refine kst_end (σ := List Value × Nat) (vs' ++ [_], n + 1) F6 N6 (List.forall_mem_cons.mpr ⟨.tail _ (.tail _ (.head _)), List.forall_mem_cons.mpr ⟨.tail _ (.tail _ (.tail _ (.head _))), fun p hp => .tail _ (.tail _ (.tail _ (.tail _ (List.mem_append.mpr (.inl hp)))))⟩⟩) (fun p hp => .tail _ (.tail _ (.tail _ (.tail _ (List.mem_append.mpr (.inr hp)))))) rfl trivial (fun _ h => nomatch h) (by kst_same) ?_
      rw [List.map_append]
      exact hP.append (.cons _ _ .nil)
    · rename Fr _ _ _ _ => F4
      rename News _ _ _ _ => N4
      k_dflt (refine' Claim.use (rgb_hls_ok ok w _ _ _ _) ?k1 ?k2 ?k3 ?k4 ?k5 ?kK ?kd ?ku ?_)
      (((case k1 => k_asm); (case k2 => k_asm); (case k3 => k_asm); (case k4 => k_asm); (case k5 => k_asm); (case kK => exact rfl); (case kd => ktr_room); (case ku => ktr_units); k_whole))
      intro ca2 ct2 cu2 cv2 hc2 tkc2 Fc2 Nc2 lc2
      clear F4 N4
      (repeat' (first | (k_unfold; (try dsimp only)) | (k_end; kc_close) | ((fail_if_success (first | (with_reducible show wpAny _ _ (pyIter _) _ _ _) | (with_reducible show wpAny _ _ (call (Value.ref _) _) _ _ _) | (with_reducible show LCg.CompSrc _ _ _ _ _ _ _ _ _ _ _ _ _ _))); walk1) | ((fail_if_success (first | (with_reducible show wpAny _ _ (pyIter _) _ _ _) | (with_reducible show wpAny _ _ (call (Value.ref _) _) _ _ _) | (with_reducible show LCg.CompSrc _ _ _ _ _ _ _ _ _ _ _ _ _ _))); dsimp only; walk1) | (leave1; walk_say "STEP leave1"; (try dsimp only)) | fail "no step"))
      refine append_K Fc2 Nc2 (.tail (Nat.ne_of_gt (lc2 (l', _) (.tail _ (.head _)))) (.tail (Nat.ne_of_gt (lc (l', _) (.head _))) (.head (List.forall_mem_cons.mpr ⟨Nat.ne_of_lt l1.1, hne⟩)))) ?_ (by rw [List.size_toArray, sizeLine_eq]; omega)
      intro h6 F6 N6
      clear Fc2 Nc2
      (repeat' (first | (k_unfold; (try dsimp only)) | (k_end; kc_close) | ((fail_if_success (first | (with_reducible show wpAny _ _ (pyIter _) _ _ _) | (with_reducible show wpAny _ _ (call (Value.ref _) _) _ _ _) | (with_reducible show LCg.CompSrc _ _ _ _ _ _ _ _ _ _ _ _ _ _))); walk1) | ((fail_if_success (first | (with_reducible show wpAny _ _ (pyIter _) _ _ _) | (with_reducible show wpAny _ _ (call (Value.ref _) _) _ _ _) | (with_reducible show LCg.CompSrc _ _ _ _ _ _ _ _ _ _ _ _ _ _))); dsimp only; walk1) | (leave1; walk_say "STEP leave1"; (try dsimp only)) | fail "no step"))
      rw [List.push_toArray] at N6
      refine kst_end (σ := List Value × Nat) (vs' ++ [_], n + 1) F6 N6 (List.forall_mem_cons.mpr ⟨.tail _ (.tail _ (.head _)), List.forall_mem_cons.mpr ⟨.tail _ (.tail _ (.tail _ (.head _))), fun p hp => .tail _ (.tail _ (.tail _ (.tail _ (List.mem_append.mpr (.inl hp)))))⟩⟩) (fun p hp => .tail _ (.tail _ (.tail _ (.tail _ (List.mem_append.mpr (.inr hp)))))) rfl trivial (fun _ h => nomatch h) (by kst_same) ?_
      rw [List.map_append]
      exact hP.append (.cons _ _ .nil)
  case done =>
    rintro ⟨vs', n⟩ u h tk _ hP F3 N3
    dsimp only [kstB] at F3
    dsimp only at N3 hP
    clear F2 N2
    (repeat' (first | (k_unfold; (try dsimp only)) | (k_end; kc_close) | ((fail_if_success (first | (with_reducible show wpAny _ _ (pyIter _) _ _ _) | (with_reducible show wpAny _ _ (call (Value.ref _) _) _ _ _) | (with_reducible show LCg.CompSrc _ _ _ _ _ _ _ _ _ _ _ _ _ _))); walk1) | ((fail_if_success (first | (with_reducible show wpAny _ _ (pyIter _) _ _ _) | (with_reducible show wpAny _ _ (call (Value.ref _) _) _ _ _) | (with_reducible show LCg.CompSrc _ _ _ _ _ _ _ _ _ _ _ _ _ _))); dsimp only; walk1) | (leave1; walk_say "STEP leave1"; (try dsimp only)) | fail "no step"))
    rename IsRange _ _ _ _ _ _ _ _ => R2
    rename Fr _ _ _ _ => F4
    rename News _ _ _ _ => N4
    refine LCg.CompSrc.range rfl F4 N4 R2 (small_of (by omega) (by omega)) (size_of (by omega)) (by rw [sizeLine_eq]; omega) ?_
    intro g'
    refine kct_range (fun k => if Float64.cmp (hueV size step (k + 1)) (hueV size step k) == some .lt then Str.ofString "b" else Str.ofString "a") (fun k' t' I' oI' C' oC' D' m' ys' h' tk' E' hlo hhi hC hx F5 N5 off ne mk => ?_) ?_
    · obtain ⟨ta, ha⟩ := fls_range hP (k := k' + 1) (Int.le_add_one hlo) (in_range hhi h1 h2).2.1
      obtain ⟨tb, hb⟩ := fls_range hP (k := k') hlo (in_range hhi h1 h2).2.2.1
      (repeat' (first | (k_unfold; (try dsimp only)) | (k_end; kc_close) | ((fail_if_success (first | (with_reducible show wpAny _ _ (pyIter _) _ _ _) | (with_reducible show wpAny _ _ (call (Value.ref _) _) _ _ _) | (with_reducible show LCg.CompSrc _ _ _ _ _ _ _ _ _ _ _ _ _ _))); walk1) | ((fail_if_success (first | (with_reducible show wpAny _ _ (pyIter _) _ _ _) | (with_reducible show wpAny _ _ (call (Value.ref _) _) _ _ _) | (with_reducible show LCg.CompSrc _ _ _ _ _ _ _ _ _ _ _ _ _ _))); dsimp only; walk1) | (leave1; walk_say "STEP leave1"; (try dsimp only)) | fail "no step"))
      refine item_litK (News.isList N5 (.tail _ (.tail _ (.tail _ (.head _))))) (by omega) (by omega) ha ?_ (by with_unfolding_all rfl)
      (repeat' (first | (k_unfold; (try dsimp only)) | (k_end; kc_close) | ((fail_if_success (first | (with_reducible show wpAny _ _ (pyIter _) _ _ _) | (with_reducible show wpAny _ _ (call (Value.ref _) _) _ _ _) | (with_reducible show LCg.CompSrc _ _ _ _ _ _ _ _ _ _ _ _ _ _))); walk1) | ((fail_if_success (first | (with_reducible show wpAny _ _ (pyIter _) _ _ _) | (with_reducible show wpAny _ _ (call (Value.ref _) _) _ _ _) | (with_reducible show LCg.CompSrc _ _ _ _ _ _ _ _ _ _ _ _ _ _))); dsimp only; walk1) | (leave1; walk_say "STEP leave1"; (try dsimp only)) | fail "no step"))
      refine item_litK (News.isList N5 (.tail _ (.tail _ (.tail _ (.head _))))) (by omega) (by omega) hb ?_ (by with_unfolding_all rfl)
      (repeat' (first | (k_unfold; (try dsimp only)) | (k_end; kc_close) | ((fail_if_success (first | (with_reducible show wpAny _ _ (pyIter _) _ _ _) | (with_reducible show wpAny _ _ (call (Value.ref _) _) _ _ _) | (with_reducible show LCg.CompSrc _ _ _ _ _ _ _ _ _ _ _ _ _ _))); walk1) | ((fail_if_success (first | (with_reducible show wpAny _ _ (pyIter _) _ _ _) | (with_reducible show wpAny _ _ (call (Value.ref _) _) _ _ _) | (with_reducible show LCg.CompSrc _ _ _ _ _ _ _ _ _ _ _ _ _ _))); dsimp only; walk1) | (leave1; walk_say "STEP leave1"; (try dsimp only)) | fail "no step"))
      · exact LCg.CompEnd.intro F5 N5 _ (fun p hp => hp) off trivial ⟨rfl, _, by dsimp only; rw [if_pos (by assumption)]⟩
      · exact LCg.CompEnd.intro F5 N5 _ (fun p hp => hp) off trivial ⟨rfl, _, by dsimp only; rw [if_neg (by simp [*])]⟩
    · intro ys hc hl
      (repeat' (first | (k_unfold; (try dsimp only)) | (k_end; kc_close) | ((fail_if_success (first | (with_reducible show wpAny _ _ (pyIter _) _ _ _) | (with_reducible show wpAny _ _ (call (Value.ref _) _) _ _ _) | (with_reducible show LCg.CompSrc _ _ _ _ _ _ _ _ _ _ _ _ _ _))); walk1) | ((fail_if_success (first | (with_reducible show wpAny _ _ (pyIter _) _ _ _) | (with_reducible show wpAny _ _ (call (Value.ref _) _) _ _ _) | (with_reducible show LCg.CompSrc _ _ _ _ _ _ _ _ _ _ _ _ _ _))); dsimp only; walk1) | (leave1; walk_say "STEP leave1"; (try dsimp only)) | fail "no step"))
      rename Fr _ _ _ _ => kF
      rename News _ _ _ _ => kN
      have e : (rangeKs 0 size.toNat).map (fun k => if (Float64.cmp (hueV size step (k + 1)) (hueV size step k) == some Ordering.lt) = true then Str.ofString "b" else Str.ofString "a") = (rangeKs 0 size.toNat).map (sgn 0 size step) := by
        refine List.map_congr_left fun k hk => ?_
        have hk' := mem_rangeKs hk
        rw [hue_lt hg hk'.1 (in_range hk'.2 h1 h2).1]
        unfold sgn
        simp only [decide_eq_true_eq]
      rw [e]
      exact hret _ _ _ kF (fun p hp => kN p (.tail _ (.tail _ (.tail _ hp))))
end Mine
end
section
theorem Mine.fresh_CRe : True := by
  w_top off
  k_with_none
  trivial
open PySem PySem.W PyProof.Rows PySem.Calls PySem.Spec
namespace Mine
theorem ltOf' {l : List (Addr × Obj)} {p : Addr × Obj} {x : Nat} (hp : p ∈ l) (h : ∀ p ∈ l, p.1 < x) : @LT.lt Nat _ p.1 x := h p hp
section
variable {prog : Program} {w : World} {A A₀ : Around} {s : Shared} {K : Frag} {L : Addr} {h₀ base : Heap} {m mg mb : Str → Option Value} {news : List (Addr × Obj)} {p : Program} {loose : List Str} {mean : ExcName → Option Value}
theorem restS {env : Env} {outer : List Env} {R : Result → Shared → Prop} {name qual : Str} {params : Arguments} {body : List Stmt} {scope : Scope} {dV kV doc pm cdv ct oc : Value} {an od : Option Addr} {osl : Array (Option Value)} {f : Addr} {args : Args} {vs : List Value} {binds : Value → List (Str × Value)}
    (B : Below A₀ base outer h₀) (F : Fr h₀ L s.heap m) (X₀ : K.In h₀) (N : News h₀ L s.heap news) (T : Top p loose mean mg mb h₀) (hA : A.frames = some (env :: outer)) (hf : env.frame = some L) (hke : env.scope.kind = .function)
    (ho : K.lookup f = some ⟨oc, od, .func (fnOf name qual params body scope dV kV doc pm an cdv ct), osl⟩) (hcd : codeIn K cdv qual = true) (hroom : A.depth < recursionLimit)
    (hb : bindArgs (fnOf name qual params body scope dV kV doc pm an cdv ct) args = newTuple vs >>= fun t => pure (binds t)) (hsz : vs.length ≤ sizeLine)
    (hloc : ∀ D, ∀ y ∈ binds D, scope.names.lookup y.1 = some .local)
    (h : ∀ D g L' h₁, (∀ p ∈ news, p.1 < D) → Fr h₀ L g m → Fr g L' h₁ (fun y => (binds (.ref D)).reverse.lookup y) → News g L' h₁ ((D, ({ cls := .type "tuple", data := .seq vs.toArray } : Obj)) :: news) → Below A base (env :: outer) g → K.In g → Top p loose mean mg mb g →
      wpAny (model prog w) (A.deeper (envOf qual scope L' f cdv)) (execs body (envOf qual scope L' f cdv))
        (fun fl s' => LeaveK h₀ L m g R (match fl with | .ret v => v | _ => .none) s')
        (fun e s' => wpAny (model prog w) (A.deeper (envOf qual scope L' f cdv)) (leaving (envOf qual scope L' f cdv) e) (fun _ s'' => R (.error e) s'') (fun e' s'' => R (.error e') s'') s')
        { s with heap := h₁, toks := s.toks + (binds (.ref D)).length })
    (hco : scope.isCoroutine = false) (hgen : scope.isGenerator = false) (hk : scope.kind = .function)
    (hcell : ∀ x ∈ scope.names, x.2 ≠ .cell) : codeAny (model prog w) A (.call (.ref f) args) R s := by
  refine codeAny_call_function (fd := fnOf name qual params body scope dV kV doc pm an cdv ct) (body := body) hroom ((X₀.keeps F.keep) _ _ ho) rfl hco hgen rfl (codeRec_of (X₀.keeps F.keep) hcd) ?_
  rw [hb]
  refine wpAny_bind (newTuple_N F N (fun h' F' N' => wpAny_pure ?_) hsz)
  have l : ∀ p ∈ news, p.1 < s.heap.objs.size := fun p hp => Heap.lt_size (N p hp).1
  exact kp_frame (cl := []) (s := { s with heap := h' }) B F' N' T.nolimit hA hf hke (hloc _) (fun g L' h₁ FG FL NG BG st => h _ g L' h₁ l FG FL NG BG (X₀.keeps st) (T.keeps st)) hcell hk
end


noncomputable def replL : Str → List Str → Str
  | x, a :: b :: r => replL (Txt.join b (Txt.split x a)) r
  | x, _ => x
noncomputable def replOk : Str → List Str → Prop
  | x, a :: b :: r => x.length ≤ 64 ∧ 0 < a.length ∧ a.length ≤ 2 ∧ b.length ≤ 2 ∧ replOk (Txt.join b (Txt.split x a)) r
  | _, [] => True
  | _, [_] => False
theorem seq1 (a b : Value) (r : List Value) : seqIndex? 1 (a :: b :: r).length = some 1 := by
  unfold seqIndex?
  simp
  omega
theorem seq0 (a b : Value) (r : List Value) : seqIndex? 0 (a :: b :: r).length = some 0 := by
  unfold seqIndex?
  simp
  omega
theorem split_len (x y : Str) : (Txt.split x y).length ≤ x.length + 2 := by
  unfold Txt.split
  split
  · simp
  · split
    · simp
    · have e1 := StrLaws.occ_length_le x y 0 x.length (x.length + 1)
      rw [length_partsBetween]
      omega
theorem sum_le {n : Nat} : ∀ (l : List Str), (∀ a ∈ l, a.length ≤ n) → (l.map (·.length)).sum ≤ l.length * n
  | [], _ => by simp
  | x :: l, h => by
    have := sum_le l (fun a ha => h a (.tail _ ha))
    have h1 := h x (.head _)
    simp only [List.map_cons, List.sum_cons, List.length_cons, Nat.succ_mul]
    omega
structure RSt where
  x : Str
  t : Tok
  D : Addr
  vs : List Value
  ss : List Str

set_option maxRecDepth 100000 in
set_option maxHeartbeats 8000000 in
theorem re_claim (w : World) (news : List (Addr × Obj)) (x : Str) (t1 : Tok) (vs : List Value) (ss : List Str) (hv : StrsAre vs ss) (hok : replOk x ss) (hl : ss.length ≤ 100) :
    Claim 2 w 49 (.str x t1 :: vs) news (RetStr news (replL x ss)) := by
  unfold Claim
  k_fill
  intro p loose mean mg mb dp un gd cn cs a ccd cl outer A₀ base h₀ L m s Q E B F X N T hk hd hu hret
  refine wpAny_call ?_
  k_dflt (refine' restS (vs := vs) (binds := fun t => [(Str.ofString "text", .str x t1), (Str.ofString "pairs", t)]) ?k1 ?k2 ?k3 ?k4 ?k5 ?kA ?kF ?kK ?k6 ?k7 ?k8 ?kV ?kZ ?kB ?_ ?c2 ?c3 ?c4 ?c5)
  (((case kA => exact rfl); (case kF => exact rfl); (case kK => assumption); (case k1 => k_asm); (case k2 => k_asm); (case k3 => k_asm); (case k4 => k_asm); (case k5 => k_asm); (case k6 => k_is); (case k7 => k_is); (case k8 => ktr_room); (case c5 => decide); (case c2 => exact rfl); (case c3 => exact rfl); (case c4 => exact rfl)))
  case kV =>
    cases vs with
    | nil => with_unfolding_all rfl
    | cons u us => with_unfolding_all rfl
  case kB => exact fun _ => locs rfl
  case kZ => rw [sizeLine_eq, StrsAre.length hv]; omega
  k_whole
  intro D' g' L' h' l1 FG' F' N' B' X' T'
  (try dsimp only); (try k_lift B'); (try k_fold)
  (repeat' (first | (k_unfold; (try dsimp only)) | (k_end; kc_close) | ((fail_if_success (first | (with_reducible show wpAny _ _ (pyIter _) _ _ _) | (with_reducible show wpAny _ _ (call (Value.ref _) _) _ _ _) | (with_reducible show LCg.CompSrc _ _ _ _ _ _ _ _ _ _ _ _ _ _) | (with_reducible show wpAny _ _ (exec (Stmt.While _ _ _ _) _) _ _ _))); walk1) | ((fail_if_success (first | (with_reducible show wpAny _ _ (pyIter _) _ _ _) | (with_reducible show wpAny _ _ (call (Value.ref _) _) _ _ _) | (with_reducible show LCg.CompSrc _ _ _ _ _ _ _ _ _ _ _ _ _ _) | (with_reducible show wpAny _ _ (exec (Stmt.While _ _ _ _) _) _ _ _))); dsimp only; walk1) | (leave1; walk_say "STEP leave1"; (try dsimp only)) | fail "no step"))
  k_dflt (refine' ksw_while (σ := RSt) (fun c => (c.D, tupOf c.vs.toArray) :: news) (fun c => [(Str.ofString "text", .str c.x c.t), (Str.ofString "pairs", .ref c.D)]) (fun c => StrsAre c.vs c.ss) [] (fun c => replOk c.x c.ss ∧ replL c.x c.ss = replL x ss ∧ c.ss.length ≤ 100) (fun c => c.ss.length) ⟨x, t1, D', vs, ss⟩ F' N' hv ?kk ⟨hok, rfl, hl⟩ ?turn ?hE)
  case kk => kst_all
  case hE => first | passes_own | with_unfolding_all passes_own
  case turn =>
    rintro ⟨x1, t, D, vs1, ss1⟩ u h tk hf ⟨hok1, heq, hl1⟩ F2 N2
    dsimp only [kstB] at F2
    dsimp only at N2 hf hok1 heq
    clear F' N'
    cases hf with
    | nil =>
      (repeat' (first | (k_unfold; (try dsimp only)) | (k_end; kc_close) | ((fail_if_success (first | (with_reducible show wpAny _ _ (pyIter _) _ _ _) | (with_reducible show wpAny _ _ (call (Value.ref _) _) _ _ _) | (with_reducible show LCg.CompSrc _ _ _ _ _ _ _ _ _ _ _ _ _ _) | (with_reducible show wpAny _ _ (exec (Stmt.While _ _ _ _) _) _ _ _))); walk1) | ((fail_if_success (first | (with_reducible show wpAny _ _ (pyIter _) _ _ _) | (with_reducible show wpAny _ _ (call (Value.ref _) _) _ _ _) | (with_reducible show LCg.CompSrc _ _ _ _ _ _ _ _ _ _ _ _ _ _) | (with_reducible show wpAny _ _ (exec (Stmt.While _ _ _ _) _) _ _ _))); dsimp only; walk1) | (leave1; walk_say "STEP leave1"; (try dsimp only)) | fail "no step"))
      rename Fr _ _ _ _ => kF
      rename News _ _ _ _ => kN
      have e : x1 = replL x ss := heq
      rw [e]
      exact hret _ _ _ kF (fun p hp => kN p (.tail _ hp))
    | cons a ta hf =>
      cases hf with
      | nil => exact hok1.elim
      | cons b tb hf =>
        rename_i vs2 ss2
        have hl2 := StrsAre.length hf
        simp only [List.length_cons] at hl1
        (repeat' (first | (k_unfold; (try dsimp only)) | (k_end; kc_close) | ((fail_if_success (first | (with_reducible show wpAny _ _ (pyIter _) _ _ _) | (with_reducible show wpAny _ _ (call (Value.ref _) _) _ _ _) | (with_reducible show LCg.CompSrc _ _ _ _ _ _ _ _ _ _ _ _ _ _) | (with_reducible show wpAny _ _ (exec (Stmt.While _ _ _ _) _) _ _ _))); walk1) | ((fail_if_success (first | (with_reducible show wpAny _ _ (pyIter _) _ _ _) | (with_reducible show wpAny _ _ (call (Value.ref _) _) _ _ _) | (with_reducible show LCg.CompSrc _ _ _ _ _ _ _ _ _ _ _ _ _ _) | (with_reducible show wpAny _ _ (exec (Stmt.While _ _ _ _) _) _ _ _))); dsimp only; walk1) | (leave1; walk_say "STEP leave1"; (try dsimp only)) | fail "no step"))
        refine ktl_truthy (N2 _ (.head _)).1 (by simp only [List.size_toArray, List.length_cons]; omega) ?_
        rw [if_pos (by rfl)]
        (repeat' (first | (k_unfold; (try dsimp only)) | (k_end; kc_close) | ((fail_if_success (first | (with_reducible show wpAny _ _ (pyIter _) _ _ _) | (with_reducible show wpAny _ _ (call (Value.ref _) _) _ _ _) | (with_reducible show LCg.CompSrc _ _ _ _ _ _ _ _ _ _ _ _ _ _) | (with_reducible show wpAny _ _ (exec (Stmt.While _ _ _ _) _) _ _ _))); walk1) | ((fail_if_success (first | (with_reducible show wpAny _ _ (pyIter _) _ _ _) | (with_reducible show wpAny _ _ (call (Value.ref _) _) _ _ _) | (with_reducible show LCg.CompSrc _ _ _ _ _ _ _ _ _ _ _ _ _ _) | (with_reducible show wpAny _ _ (exec (Stmt.While _ _ _ _) _) _ _ _))); dsimp only; walk1) | (leave1; walk_say "STEP leave1"; (try dsimp only)) | fail "no step"))
        refine item_tupleT (News.isTup N2 (.head _)) (by decide) (by decide) (seq1 _ _ _) rfl ?_
        (repeat' (first | (k_unfold; (try dsimp only)) | (k_end; kc_close) | ((fail_if_success (first | (with_reducible show wpAny _ _ (pyIter _) _ _ _) | (with_reducible show wpAny _ _ (call (Value.ref _) _) _ _ _) | (with_reducible show LCg.CompSrc _ _ _ _ _ _ _ _ _ _ _ _ _ _) | (with_reducible show wpAny _ _ (exec (Stmt.While _ _ _ _) _) _ _ _))); walk1) | ((fail_if_success (first | (with_reducible show wpAny _ _ (pyIter _) _ _ _) | (with_reducible show wpAny _ _ (call (Value.ref _) _) _ _ _) | (with_reducible show LCg.CompSrc _ _ _ _ _ _ _ _ _ _ _ _ _ _) | (with_reducible show wpAny _ _ (exec (Stmt.While _ _ _ _) _) _ _ _))); dsimp only; walk1) | (leave1; walk_say "STEP leave1"; (try dsimp only)) | fail "no step"))
        refine item_tupleT (News.isTup N2 (.head _)) (by decide) (by decide) (seq0 _ _ _) rfl ?_
        (repeat' (first | (k_unfold; (try dsimp only)) | (k_end; kc_close) | ((fail_if_success (first | (with_reducible show wpAny _ _ (pyIter _) _ _ _) | (with_reducible show wpAny _ _ (call (Value.ref _) _) _ _ _) | (with_reducible show LCg.CompSrc _ _ _ _ _ _ _ _ _ _ _ _ _ _) | (with_reducible show wpAny _ _ (exec (Stmt.While _ _ _ _) _) _ _ _))); walk1) | ((fail_if_success (first | (with_reducible show wpAny _ _ (pyIter _) _ _ _) | (with_reducible show wpAny _ _ (call (Value.ref _) _) _ _ _) | (with_reducible show LCg.CompSrc _ _ _ _ _ _ _ _ _ _ _ _ _ _) | (with_reducible show wpAny _ _ (exec (Stmt.While _ _ _ _) _) _ _ _))); dsimp only; walk1) | (leave1; walk_say "STEP leave1"; (try dsimp only)) | fail "no step"))
        obtain ⟨hx1, ha0, ha2, hb2, hok2⟩ := hok1
        refine splitN1A F2 N2 (by simp only [beq_eq_false_iff_ne]; omega) ?_ (by rw [sizeLine_eq]; omega)
        intro l h3 k3 el hst hle hisl F3 N3
        rw [el] at hst hle
        clear F2 N2
        (repeat' (first | (k_unfold; (try dsimp only)) | (k_end; kc_close) | ((fail_if_success (first | (with_reducible show wpAny _ _ (pyIter _) _ _ _) | (with_reducible show wpAny _ _ (call (Value.ref _) _) _ _ _) | (with_reducible show LCg.CompSrc _ _ _ _ _ _ _ _ _ _ _ _ _ _) | (with_reducible show wpAny _ _ (exec (Stmt.While _ _ _ _) _) _ _ _))); walk1) | ((fail_if_success (first | (with_reducible show wpAny _ _ (pyIter _) _ _ _) | (with_reducible show wpAny _ _ (call (Value.ref _) _) _ _ _) | (with_reducible show LCg.CompSrc _ _ _ _ _ _ _ _ _ _ _ _ _ _) | (with_reducible show wpAny _ _ (exec (Stmt.While _ _ _ _) _) _ _ _))); dsimp only; walk1) | (leave1; walk_say "STEP leave1"; (try dsimp only)) | fail "no step"))
        refine join_listC hisl hst (by omega) ?_ ?_
        · have h1 := split_len x1 a
          have h2 := sum_le (Txt.split x1 a) hle
          have h3 : (Txt.split x1 a).length * x1.length ≤ 66 * 64 := Nat.mul_le_mul (by omega) hx1
          omega
        intro t5 k5
        (repeat' (first | (k_unfold; (try dsimp only)) | (k_end; kc_close) | ((fail_if_success (first | (with_reducible show wpAny _ _ (pyIter _) _ _ _) | (with_reducible show wpAny _ _ (call (Value.ref _) _) _ _ _) | (with_reducible show LCg.CompSrc _ _ _ _ _ _ _ _ _ _ _ _ _ _) | (with_reducible show wpAny _ _ (exec (Stmt.While _ _ _ _) _) _ _ _))); walk1) | ((fail_if_success (first | (with_reducible show wpAny _ _ (pyIter _) _ _ _) | (with_reducible show wpAny _ _ (call (Value.ref _) _) _ _ _) | (with_reducible show LCg.CompSrc _ _ _ _ _ _ _ _ _ _ _ _ _ _) | (with_reducible show wpAny _ _ (exec (Stmt.While _ _ _ _) _) _ _ _))); dsimp only; walk1) | (leave1; walk_say "STEP leave1"; (try dsimp only)) | fail "no step"))
        rename Fr _ _ _ _ => F4
        rename News _ _ _ _ => N4
        k_dflt (refine slice_tuple_from F4 N4 (News.isTup N4 (.tail _ (.head _))) (by decide) (by simp only [List.size_toArray, List.length_cons]; omega) ?_ (by with_unfolding_all rfl) (by intro _; with_unfolding_all rfl) (by rw [sizeLine_eq]; simp only [List.size_toArray, List.length_cons]; omega))
        intro h6 F6 N6
        replace N6 : News g' L' h6 ((_, tupOf vs2.toArray) :: _) := N6
        clear F4 N4
        (repeat' (first | (k_unfold; (try dsimp only)) | (k_end; kc_close) | ((fail_if_success (first | (with_reducible show wpAny _ _ (pyIter _) _ _ _) | (with_reducible show wpAny _ _ (call (Value.ref _) _) _ _ _) | (with_reducible show LCg.CompSrc _ _ _ _ _ _ _ _ _ _ _ _ _ _) | (with_reducible show wpAny _ _ (exec (Stmt.While _ _ _ _) _) _ _ _))); walk1) | ((fail_if_success (first | (with_reducible show wpAny _ _ (pyIter _) _ _ _) | (with_reducible show wpAny _ _ (call (Value.ref _) _) _ _ _) | (with_reducible show LCg.CompSrc _ _ _ _ _ _ _ _ _ _ _ _ _ _) | (with_reducible show wpAny _ _ (exec (Stmt.While _ _ _ _) _) _ _ _))); dsimp only; walk1) | (leave1; walk_say "STEP leave1"; (try dsimp only)) | fail "no step"))
        rename Fr _ _ _ _ => F7
        rename News _ _ _ _ => N7
        refine ksw_end (σ := RSt) ⟨Txt.join b (Txt.split x1 a), _, _, vs2, ss2⟩ F7 N7 (List.forall_mem_cons.mpr ⟨.head _, fun p hp => .tail _ (.tail _ (.tail _ hp))⟩) hf (by kst_all) (by ksw_same) ⟨hok2, heq, by show ss2.length ≤ 100; omega⟩ (by show ss2.length < ss2.length + 1 + 1; omega)
end Mine
end
section
theorem Mine.fresh_CEl : True := by
  w_top off
  k_with_none
  trivial
open PySem PySem.W PyProof.Rows PySem.Calls PySem.Spec
namespace Mine

noncomputable abbrev RetB (news : List (Addr × Obj)) (b : Bool) (h₀ : Heap) (L : Addr) (m : Str → Option Value) (s : Shared) (Q : Value → Shared → Prop) : Prop :=
  ∀ (h' : Heap) (tk' : Nat), Fr h₀ L h' m → News h₀ L h' news → Q (.bool b) { s with heap := h', toks := tk' }

open PySem.Builtin PySem.Builtin.Str in
noncomputable def find4 (x y : Str) (i j : Int) : Int := match occurrences x y (fromIndex x.length i) (min (fromIndex x.length j) x.length) 1 with
  | k :: _ => (k : Int)
  | [] => -1
open PySem.Builtin PySem.Builtin.Str in
theorem gives_find4 (x y : Str) (i j : Int) (t u v z : Tok) : Gives («str.find» ⟨[.str x t, .str y u, .int i v, .int j z], []⟩) (.int (find4 x y i j)) := by
  unfold find4
  show Gives (match occurrences x y (fromIndex x.length i) (min (fromIndex x.length j) x.length) 1 with | k :: _ => retInt k | [] => (do rule "str.find.not-found"; retInt (-1))) _
  cases occurrences x y (fromIndex x.length i) (min (fromIndex x.length j) x.length) 1 with
  | nil => exact .rule (.of_eq rfl)
  | cons k _ => exact .of_eq rfl
theorem find4_call {prog : Program} {w : World} {A : Around} {E : Value → Shared → Prop} {s : Shared} {x y : Str} {t u v z : Tok} {i j : Int} {Q : Value → Shared → Prop} (hq : Q (.int (find4 x y i j) s.toks) { s with toks := s.toks + 1 }) : wpAny (model prog w) A (call (.builtin "str.find") [.str x t, .str y u, .int i v, .int j z]) Q E s :=
  call_gives F.slot_str_find (typeIs_str _ _ _) F.entry_str_find (F.args_str_find_4 _ _ _ _) (gives_find4 x y i j t u v z) hq
local macro_rules | `(tactic| walk_at "call builtin:str.find") => `(tactic| (with_reducible refine find4_call ?_))
noncomputable def elF (row got : Str) : Bool :=
  if find4 got (Str.ofString "") 0 (got.length : Int) < 0 then false else
  if find4 got row (find4 got (Str.ofString "") 0 (got.length : Int) + ((0 : Nat) : Int)) (got.length : Int) < 0 then false else
  if find4 got (Str.ofString "") (find4 got row (find4 got (Str.ofString "") 0 (got.length : Int) + ((0 : Nat) : Int)) (got.length : Int) + (row.length : Int)) (got.length : Int) < 0 then false else true
theorem ret_b {news news' : List (Addr × Obj)} {b c : Bool} {h₀ h' : Heap} {L : Addr} {m : Str → Option Value} {s : Shared} {Q : Value → Shared → Prop} {tk' : Nat}
    (hret : RetB news b h₀ L m s Q) (F : Fr h₀ L h' m) (N : News h₀ L h' news') (hs : ∀ p ∈ news, p ∈ news') (e : b = c) : Q (.bool c) { s with heap := h', toks := tk' } := by
  subst e
  exact hret h' tk' F (fun p hp => N p (hs p hp))
theorem three_of {l : List (Str × Tok)} {a b c : Str} (h : l.map (·.1) = [a, b, c]) : ∃ t u v, l = [(a, t), (b, u), (c, v)] := by
  match l, h with
  | [(x, t), (y, u), (z, v)], h =>
    simp only [List.map_cons, List.map_nil, List.cons.injEq, and_true] at h
    obtain ⟨rfl, rfl, rfl⟩ := h
    exact ⟨t, u, v, rfl⟩

set_option maxRecDepth 100000 in
set_option maxHeartbeats 8000000 in
theorem el_claim (w : World) (news : List (Addr × Obj)) (want row got : Str) (t1 t2 : Tok) (hs : Txt.split want (Str.ofString "...") = [Str.ofString "", row, Str.ofString ""]) (hr : row.length ≤ 16) (hw : want.length ≤ 64) (hg : got.length ≤ 64) (hin : (Builtin.Str.occurrences want (Str.ofString "...") 0 want.length 1).isEmpty = false) :
    Claim 2 w 42 [.str want t1, .str got t2] news (RetB news (elF row got)) := by
  unfold Claim
  k_fill
  intro p loose mean mg mb dp un gd cn cs a ccd cl outer A₀ base h₀ L m s Q E B F X N T hk hd hu hret
  refine wpAny_call ?_
  k_dflt cell_enter
  (repeat' (first | (k_unfold; (try dsimp only)) | (k_end; kc_close) | ((fail_if_success (first | (with_reducible show wpAny _ _ (pyIter _) _ _ _) | (with_reducible show wpAny _ _ (call (Value.ref _) _) _ _ _) | (with_reducible show LCg.CompSrc _ _ _ _ _ _ _ _ _ _ _ _ _ _) | (with_reducible show wpAny _ _ (exec (Stmt.While _ _ _ _) _) _ _ _) | (with_reducible show wpAny _ _ (call (Value.builtin "str.split") _) _ _ _))); walk1) | ((fail_if_success (first | (with_reducible show wpAny _ _ (pyIter _) _ _ _) | (with_reducible show wpAny _ _ (call (Value.ref _) _) _ _ _) | (with_reducible show LCg.CompSrc _ _ _ _ _ _ _ _ _ _ _ _ _ _) | (with_reducible show wpAny _ _ (exec (Stmt.While _ _ _ _) _) _ _ _) | (with_reducible show wpAny _ _ (call (Value.builtin "str.split") _) _ _ _))); dsimp only; walk1) | (leave1; walk_say "STEP leave1"; (try dsimp only)) | fail "no step"))
  rename Fr _ _ _ _ => F1
  rename News _ _ _ _ => N1
  refine splitN1A F1 N1 (by decide +kernel) ?_ (by rw [sizeLine_eq]; omega)
  intro l h3 k3 el hst hle hisl F3 N3
  rw [hs] at el
  obtain ⟨u1, u2, u3, rfl⟩ := three_of el
  clear F1 N1 hst hle hisl
  dsimp only [strValues, List.map] at N3
  (repeat' (first | (k_unfold; (try dsimp only)) | (k_end; kc_close) | ((fail_if_success (first | (with_reducible show wpAny _ _ (pyIter _) _ _ _) | (with_reducible show wpAny _ _ (call (Value.ref _) _) _ _ _) | (with_reducible show LCg.CompSrc _ _ _ _ _ _ _ _ _ _ _ _ _ _) | (with_reducible show wpAny _ _ (exec (Stmt.While _ _ _ _) _) _ _ _) | (with_reducible show wpAny _ _ (call (Value.builtin "str.split") _) _ _ _))); walk1) | ((fail_if_success (first | (with_reducible show wpAny _ _ (pyIter _) _ _ _) | (with_reducible show wpAny _ _ (call (Value.ref _) _) _ _ _) | (with_reducible show LCg.CompSrc _ _ _ _ _ _ _ _ _ _ _ _ _ _) | (with_reducible show wpAny _ _ (exec (Stmt.While _ _ _ _) _) _ _ _) | (with_reducible show wpAny _ _ (call (Value.builtin "str.split") _) _ _ _))); dsimp only; walk1) | (leave1; walk_say "STEP leave1"; (try dsimp only)) | fail "no step"))
  rename Fr _ _ _ _ => F4
  rename News _ _ _ _ => N4
  k_dflt (with_unfolding_all refine' For_invVF F4 ?k1 ?k2 ?_; (case k1 => exact rfl); (case k2 => exact rfl); k_whole)
  (repeat' (first | (k_unfold; (try dsimp only)) | (k_end; kc_close) | ((fail_if_success (first | (with_reducible show wpAny _ _ (pyIter _) _ _ _) | (with_reducible show wpAny _ _ (call (Value.ref _) _) _ _ _) | (with_reducible show LCg.CompSrc _ _ _ _ _ _ _ _ _ _ _ _ _ _) | (with_reducible show wpAny _ _ (exec (Stmt.While _ _ _ _) _) _ _ _) | (with_reducible show wpAny _ _ (call (Value.builtin "str.split") _) _ _ _))); walk1) | ((fail_if_success (first | (with_reducible show wpAny _ _ (pyIter _) _ _ _) | (with_reducible show wpAny _ _ (call (Value.ref _) _) _ _ _) | (with_reducible show LCg.CompSrc _ _ _ _ _ _ _ _ _ _ _ _ _ _) | (with_reducible show wpAny _ _ (exec (Stmt.While _ _ _ _) _) _ _ _) | (with_reducible show wpAny _ _ (call (Value.builtin "str.split") _) _ _ _))); dsimp only; walk1) | (leave1; walk_say "STEP leave1"; (try dsimp only)) | fail "no step"))
  k_dflt (refine iter_listUnr rfl F4 N4 (.tail _ (.head _)) rfl rfl ?_)
  intro I lI
  clear F4 N4
  refine ListRest.succ (fun it1 h1 tk1 hit1 F1 N1 => ?_)
  (repeat' (first | (k_unfold; (try dsimp only)) | (k_end; kc_close) | ((fail_if_success (first | (with_reducible show wpAny _ _ (pyIter _) _ _ _) | (with_reducible show wpAny _ _ (call (Value.ref _) _) _ _ _) | (with_reducible show LCg.CompSrc _ _ _ _ _ _ _ _ _ _ _ _ _ _) | (with_reducible show wpAny _ _ (exec (Stmt.While _ _ _ _) _) _ _ _) | (with_reducible show wpAny _ _ (call (Value.builtin "str.split") _) _ _ _))); walk1) | ((fail_if_success (first | (with_reducible show wpAny _ _ (pyIter _) _ _ _) | (with_reducible show wpAny _ _ (call (Value.ref _) _) _ _ _) | (with_reducible show LCg.CompSrc _ _ _ _ _ _ _ _ _ _ _ _ _ _) | (with_reducible show wpAny _ _ (exec (Stmt.While _ _ _ _) _) _ _ _) | (with_reducible show wpAny _ _ (call (Value.builtin "str.split") _) _ _ _))); dsimp only; walk1) | (leave1; walk_say "STEP leave1"; (try dsimp only)) | fail "no step"))
  · exact ret_b hret (by assumption) (by assumption) (fun p hp => .tail _ (.tail _ (.tail _ hp))) (by unfold elF; simp only [*, if_true])
  rename Fr _ _ _ _ => F2
  rename News _ _ _ _ => N2
  refine UnrEnd.intro F2 N2 _ (fun p hp => hp) (fun p hp => Nat.ne_of_lt (lI p hp)) ⟨.tail _ (.head _), ?_⟩
  clear F1 N1 F2 N2
  refine ListRest.succ (fun it2 h2 tk2 hit2 F1 N1 => ?_)
  (repeat' (first | (k_unfold; (try dsimp only)) | (k_end; kc_close) | ((fail_if_success (first | (with_reducible show wpAny _ _ (pyIter _) _ _ _) | (with_reducible show wpAny _ _ (call (Value.ref _) _) _ _ _) | (with_reducible show LCg.CompSrc _ _ _ _ _ _ _ _ _ _ _ _ _ _) | (with_reducible show wpAny _ _ (exec (Stmt.While _ _ _ _) _) _ _ _) | (with_reducible show wpAny _ _ (call (Value.builtin "str.split") _) _ _ _))); walk1) | ((fail_if_success (first | (with_reducible show wpAny _ _ (pyIter _) _ _ _) | (with_reducible show wpAny _ _ (call (Value.ref _) _) _ _ _) | (with_reducible show LCg.CompSrc _ _ _ _ _ _ _ _ _ _ _ _ _ _) | (with_reducible show wpAny _ _ (exec (Stmt.While _ _ _ _) _) _ _ _) | (with_reducible show wpAny _ _ (call (Value.builtin "str.split") _) _ _ _))); dsimp only; walk1) | (leave1; walk_say "STEP leave1"; (try dsimp only)) | fail "no step"))
  · exact ret_b hret (by assumption) (by assumption) (fun p hp => .tail _ (.tail _ (.tail _ hp))) (by unfold elF; simp only [*, if_true, if_false])
  rename Fr _ _ _ _ => F2
  rename News _ _ _ _ => N2
  refine UnrEnd.intro F2 N2 _ (fun p hp => hp) (fun p hp => Nat.ne_of_lt (lI p hp)) ⟨.tail _ (.head _), ?_⟩
  clear F1 N1 F2 N2
  refine ListRest.succ (fun it3 h3 tk3 hit3 F1 N1 => ?_)
  (repeat' (first | (k_unfold; (try dsimp only)) | (k_end; kc_close) | ((fail_if_success (first | (with_reducible show wpAny _ _ (pyIter _) _ _ _) | (with_reducible show wpAny _ _ (call (Value.ref _) _) _ _ _) | (with_reducible show LCg.CompSrc _ _ _ _ _ _ _ _ _ _ _ _ _ _) | (with_reducible show wpAny _ _ (exec (Stmt.While _ _ _ _) _) _ _ _) | (with_reducible show wpAny _ _ (call (Value.builtin "str.split") _) _ _ _))); walk1) | ((fail_if_success (first | (with_reducible show wpAny _ _ (pyIter _) _ _ _) | (with_reducible show wpAny _ _ (call (Value.ref _) _) _ _ _) | (with_reducible show LCg.CompSrc _ _ _ _ _ _ _ _ _ _ _ _ _ _) | (with_reducible show wpAny _ _ (exec (Stmt.While _ _ _ _) _) _ _ _) | (with_reducible show wpAny _ _ (call (Value.builtin "str.split") _) _ _ _))); dsimp only; walk1) | (leave1; walk_say "STEP leave1"; (try dsimp only)) | fail "no step"))
  · exact ret_b hret (by assumption) (by assumption) (fun p hp => .tail _ (.tail _ (.tail _ hp))) (by unfold elF; simp only [*, if_true, if_false])
  rename Fr _ _ _ _ => F2
  rename News _ _ _ _ => N2
  refine UnrEnd.intro F2 N2 _ (fun p hp => hp) (fun p hp => Nat.ne_of_lt (lI p hp)) ⟨.tail _ (.head _), ?_⟩
  clear F1 N1 F2 N2
  refine ListRest.zero (fun h4 tk4 F1 N1 => ?_)
  (repeat' (first | (k_unfold; (try dsimp only)) | (k_end; kc_close) | ((fail_if_success (first | (with_reducible show wpAny _ _ (pyIter _) _ _ _) | (with_reducible show wpAny _ _ (call (Value.ref _) _) _ _ _) | (with_reducible show LCg.CompSrc _ _ _ _ _ _ _ _ _ _ _ _ _ _) | (with_reducible show wpAny _ _ (exec (Stmt.While _ _ _ _) _) _ _ _) | (with_reducible show wpAny _ _ (call (Value.builtin "str.split") _) _ _ _))); walk1) | ((fail_if_success (first | (with_reducible show wpAny _ _ (pyIter _) _ _ _) | (with_reducible show wpAny _ _ (call (Value.ref _) _) _ _ _) | (with_reducible show LCg.CompSrc _ _ _ _ _ _ _ _ _ _ _ _ _ _) | (with_reducible show wpAny _ _ (exec (Stmt.While _ _ _ _) _) _ _ _) | (with_reducible show wpAny _ _ (call (Value.builtin "str.split") _) _ _ _))); dsimp only; walk1) | (leave1; walk_say "STEP leave1"; (try dsimp only)) | fail "no step"))
  exact ret_b hret (by assumption) (by assumption) (fun p hp => .tail _ (.tail _ hp)) (by unfold elF; simp only [*, if_true, if_false])
end Mine
end
section
theorem Mine.fresh_CSp : True := by
  w_top off
  k_with_none
  trivial
open PySem PySem.W PyProof.Rows PySem.Calls PySem.Spec
namespace Mine

noncomputable abbrev RetSp (news : List (Addr × Obj)) (ys ns : List Str) (h₀ : Heap) (L : Addr) (m : Str → Option Value) (s : Shared) (Q : Value → Shared → Prop) : Prop :=
  ∀ (a ya na : Addr) (vy vn : List Value) (cy cn : Nat) (h' : Heap) (tk' : Nat), Fr h₀ L h' m → News h₀ L h' ((a, tupOf #[.ref ya, .ref na]) :: (na, W.listOf vn.toArray cn) :: (ya, W.listOf vy.toArray cy) :: news) →
    (∀ p ∈ news, p.1 < ya) → @LT.lt Nat _ ya na → @LT.lt Nat _ na a → StrsAre vy ys → StrsAre vn ns → Q (.ref a) { s with heap := h', toks := tk' }

noncomputable abbrev mapOf {h₀ h : Heap} {L : Addr} {m : Str → Option Value} (_ : Fr h₀ L h m) : Str → Option Value := m
section
variable {prog : Program} {w : World} {A : Around} {E : Value → Shared → Prop} {s : Shared} {env : Env} {h₀ : Heap} {x : Str} {body : List Stmt} {Q : Flow → Shared → Prop} {I : Addr} {lp : Addr × Obj}
theorem rest_inv (J : List Value → (Str → Option Value) → List (Addr × Obj) → Prop)
    (turn : ∀ v r m nx, J (v :: r) m nx → ∀ (it : Obj) h tk, Fr h₀ env.locals h (fun y => if y = x then some v else m y) → News h₀ env.locals h ((I, it) :: nx) →
      wpAny (model prog w) A (execs body env) (UnrPost h₀ env.locals { s with heap := h, toks := tk } I it (fun m' n' => lp ∈ n' ∧ J r m' n') Q) E { s with heap := h, toks := tk })
    (done : ∀ m nx, J [] m nx → ∀ h tk, Fr h₀ env.locals h m → News h₀ env.locals h nx → Q .next { s with heap := h, toks := tk }) :
    ∀ vs m nx, J vs m nx → ListRest prog w A E h₀ env x body Q s I lp vs m nx
  | [], m, nx, hj => ListRest.zero (done m nx hj)
  | v :: r, m, nx, hj => by
    refine ListRest.succ (fun it h tk _ F N => wpAny_mono (turn v r m nx hj it h tk F N) (fun f s₂ hp => ?_) fun _ _ e => e)
    have up : UnrEnd h₀ env.locals { s with heap := h, toks := tk } I it (fun m' n' => lp ∈ n' ∧ J r m' n') s₂ → UnrEnd h₀ env.locals { s with heap := h, toks := tk } I it (fun m' n' => lp ∈ n' ∧ ListRest prog w A E h₀ env x body Q s I lp r m' n') s₂ := by
      rintro ⟨h', tk', m', n', e, F', N', off, hl, hj'⟩
      exact ⟨h', tk', m', n', e, F', N', off, hl, rest_inv J turn done r m' n' hj'⟩
    cases f with
    | ret v => exact hp
    | brk => exact hp
    | next => exact up hp
    | cont => exact up hp
end

set_option maxRecDepth 100000 in
set_option maxHeartbeats 8000000 in
theorem sp_claim (w : World) (news : List (Addr × Obj)) (rl f : Addr) (vs : List Value) (nn : Nat) (ss : List Str) (p : Str → Bool)
    (fn : Str) (fq : Str) (fpa : Arguments) (fb : Expr) (fsc : Scope) (fcl : List (Str × Addr)) (fpm : Value) (fc : Addr) (fct : Value) (hf : (f, kla_obj fn fq fpa fb fsc fcl fpm fc fct) ∈ news)
    (hrl : (rl, W.listOf vs.toArray nn) ∈ news) (hst : StrsAre vs ss) (hlen : ss.length ≤ 100)
    (hp : ∀ nw : List (Addr × Obj), (∀ q ∈ news, q ∈ nw) → ∀ x ∈ ss, ∀ t, Claim 4 w f [.str x t] nw (RetB nw (p x))) :
    Claim 6 w 56 [.ref rl, .ref f] news (RetSp news (ss.filter p) (ss.filter (fun x => !p x))) := by
  unfold Claim
  k_fill
  intro pp loose mean mg mb dp un gd cn cs a ccd cl outer A₀ base h₀ L m s Q E B F X N T hk hd hu hret
  refine wpAny_call ?_
  k_dflt cell_enter
  (repeat' (first | (k_unfold; (try dsimp only)) | (k_end; kc_close) | ((fail_if_success (first | (with_reducible show wpAny _ _ (pyIter _) _ _ _) | (with_reducible show wpAny _ _ (call (Value.ref _) _) _ _ _) | (with_reducible show LCg.CompSrc _ _ _ _ _ _ _ _ _ _ _ _ _ _) | (with_reducible show wpAny _ _ (exec (Stmt.While _ _ _ _) _) _ _ _))); walk1) | ((fail_if_success (first | (with_reducible show wpAny _ _ (pyIter _) _ _ _) | (with_reducible show wpAny _ _ (call (Value.ref _) _) _ _ _) | (with_reducible show LCg.CompSrc _ _ _ _ _ _ _ _ _ _ _ _ _ _) | (with_reducible show wpAny _ _ (exec (Stmt.While _ _ _ _) _) _ _ _))); dsimp only; walk1) | (leave1; walk_say "STEP leave1"; (try dsimp only)) | fail "no step"))
  rename Fr _ _ _ _ => F4
  rename News _ _ _ _ => N4
  rename_i L' h1 FG' B' X' T' tk0 ya h2 l1 h3 na h4 l2 h5
  k_dflt (with_unfolding_all refine' For_invVF F4 ?k1 ?k2 ?_; (case k1 => exact rfl); (case k2 => exact rfl); k_whole)
  (repeat' (first | (k_unfold; (try dsimp only)) | (k_end; kc_close) | ((fail_if_success (first | (with_reducible show wpAny _ _ (pyIter _) _ _ _) | (with_reducible show wpAny _ _ (call (Value.ref _) _) _ _ _) | (with_reducible show LCg.CompSrc _ _ _ _ _ _ _ _ _ _ _ _ _ _) | (with_reducible show wpAny _ _ (exec (Stmt.While _ _ _ _) _) _ _ _))); walk1) | ((fail_if_success (first | (with_reducible show wpAny _ _ (pyIter _) _ _ _) | (with_reducible show wpAny _ _ (call (Value.ref _) _) _ _ _) | (with_reducible show LCg.CompSrc _ _ _ _ _ _ _ _ _ _ _ _ _ _) | (with_reducible show wpAny _ _ (exec (Stmt.While _ _ _ _) _) _ _ _))); dsimp only; walk1) | (leave1; walk_say "STEP leave1"; (try dsimp only)) | fail "no step"))
  k_dflt (refine iter_listUnr rfl F4 N4 (.tail _ (.tail _ hrl)) rfl rfl ?_)
  intro I lI
  have lIy : @LT.lt Nat _ ya I := lI _ (.tail _ (.head _))
  have lIn : @LT.lt Nat _ na I := lI _ (.head _)
  have lIr : ∀ q ∈ news, q.1 < I := fun q hq => lI q (.tail _ (.tail _ hq))
  clear lI
  refine rest_inv (fun vr m' nx => ∃ (sr : List Str) (vy vn : List Value) (yss nss : List Str) (cy cn : Nat), StrsAre vr sr ∧ StrsAre vy yss ∧ StrsAre vn nss ∧ (∀ x ∈ sr, x ∈ ss) ∧ yss ++ sr.filter p = ss.filter p ∧ nss ++ sr.filter (fun x => !p x) = ss.filter (fun x => !p x) ∧ yss.length + nss.length + sr.length = ss.length ∧
    nx = (na, W.listOf vn.toArray cn) :: (ya, W.listOf vy.toArray cy) :: news ∧ ∀ y, y ≠ Str.ofString "x" → m' y = mapOf F4 y) ?turn ?done vs _ _ ⟨ss, [], [], [], [], 0, 0, hst, .nil, .nil, (fun _ h => h), rfl, rfl, (by simp), rfl, (fun _ _ => rfl)⟩
  case turn =>
    rintro v r m' nx ⟨sr, vy, vn, yss, nss, cy, cn, hvr, hvy, hvn, hsub, hy, hn, hle, rfl, hm⟩ it h tk F5 N5
    have hly := StrsAre.length hvy
    have hln := StrsAre.length hvn
    cases hvr with
    | cons x tx hr =>
      rename_i sr'
      have hme : (fun y => if y = Str.ofString "x" then some (Value.str x tx) else m' y) = fun y => if y = Str.ofString "x" then some (Value.str x tx) else mapOf F4 y := funext fun y => ite_congr rfl (fun _ => rfl) (fun hy => hm y hy)
      rw [hme] at F5
      clear hme hm
      dsimp only [mapOf] at F5
      have hmemf : (f, kla_obj fn fq fpa fb fsc fcl fpm fc fct) ∈ (I, it) :: (na, W.listOf vn.toArray cn) :: (ya, W.listOf vy.toArray cy) :: news := .tail _ (.tail _ (.tail _ hf))
      have hC := hp ((I, it) :: (na, W.listOf vn.toArray cn) :: (ya, W.listOf vy.toArray cy) :: news) (fun q hq => .tail _ (.tail _ (.tail _ hq))) x (hsub x (.head _)) tx
      (repeat' (first | (k_unfold; (try dsimp only)) | (k_end; kc_close) | ((fail_if_success (first | (with_reducible show wpAny _ _ (pyIter _) _ _ _) | (with_reducible show wpAny _ _ (call (Value.ref _) _) _ _ _) | (with_reducible show LCg.CompSrc _ _ _ _ _ _ _ _ _ _ _ _ _ _) | (with_reducible show wpAny _ _ (exec (Stmt.While _ _ _ _) _) _ _ _))); walk1) | ((fail_if_success (first | (with_reducible show wpAny _ _ (pyIter _) _ _ _) | (with_reducible show wpAny _ _ (call (Value.ref _) _) _ _ _) | (with_reducible show LCg.CompSrc _ _ _ _ _ _ _ _ _ _ _ _ _ _) | (with_reducible show wpAny _ _ (exec (Stmt.While _ _ _ _) _) _ _ _))); dsimp only; walk1) | (leave1; walk_say "STEP leave1"; (try dsimp only)) | fail "no step"))
      k_dflt (refine' callWith_F ?k1 ?_; (case k1 => exact FnAt.of N5 hmemf); k_whole)
      (repeat' (first | (k_unfold; (try dsimp only)) | (k_end; kc_close) | ((fail_if_success (first | (with_reducible show wpAny _ _ (pyIter _) _ _ _) | (with_reducible show wpAny _ _ (call (Value.ref _) _) _ _ _) | (with_reducible show LCg.CompSrc _ _ _ _ _ _ _ _ _ _ _ _ _ _) | (with_reducible show wpAny _ _ (exec (Stmt.While _ _ _ _) _) _ _ _))); walk1) | ((fail_if_success (first | (with_reducible show wpAny _ _ (pyIter _) _ _ _) | (with_reducible show wpAny _ _ (call (Value.ref _) _) _ _ _) | (with_reducible show LCg.CompSrc _ _ _ _ _ _ _ _ _ _ _ _ _ _) | (with_reducible show wpAny _ _ (exec (Stmt.While _ _ _ _) _) _ _ _))); dsimp only; walk1) | (leave1; walk_say "STEP leave1"; (try dsimp only)) | fail "no step"))
      k_dflt (refine' Claim.use hC ?k1 ?k2 ?k3 ?k4 ?k5 ?kK ?kd ?ku ?_)
      (((case k1 => k_asm); (case k2 => k_asm); (case k3 => k_asm); (case k4 => k_asm); (case k5 => k_asm); (case kK => exact rfl); (case kd => ktr_room); (case ku => ktr_units); k_whole))
      intro h6 tk6 F6 N6
      clear F5 N5
      cases hpx : p x
      · (repeat' (first | (k_unfold; (try dsimp only)) | (k_end; kc_close) | ((fail_if_success (first | (with_reducible show wpAny _ _ (pyIter _) _ _ _) | (with_reducible show wpAny _ _ (call (Value.ref _) _) _ _ _) | (with_reducible show LCg.CompSrc _ _ _ _ _ _ _ _ _ _ _ _ _ _) | (with_reducible show wpAny _ _ (exec (Stmt.While _ _ _ _) _) _ _ _))); walk1) | ((fail_if_success (first | (with_reducible show wpAny _ _ (pyIter _) _ _ _) | (with_reducible show wpAny _ _ (call (Value.ref _) _) _ _ _) | (with_reducible show LCg.CompSrc _ _ _ _ _ _ _ _ _ _ _ _ _ _) | (with_reducible show wpAny _ _ (exec (Stmt.While _ _ _ _) _) _ _ _))); dsimp only; walk1) | (leave1; walk_say "STEP leave1"; (try dsimp only)) | fail "no step"))
        rename Fr _ _ _ _ => F7
        rename News _ _ _ _ => N7
        rw [List.push_toArray] at N7
        refine UnrEnd.intro F7 N7 _ (fun q hq => hq) (List.forall_mem_cons.mpr ⟨Nat.ne_of_lt lIn, List.forall_mem_cons.mpr ⟨Nat.ne_of_lt lIy, fun q hq => Nat.ne_of_lt (lIr q hq)⟩⟩) ⟨.tail _ (.tail _ hrl), sr', vy, vn ++ [_], yss, nss ++ [x], cy, cn + 1, hr, hvy, StrsAre.append' hvn (.cons _ _ .nil), (fun z hz => hsub z (.tail _ hz)), ?_, ?_, ?_, rfl, ?_⟩
        · simpa [List.filter_cons, hpx] using hy
        · simpa [List.filter_cons, hpx] using hn
        · simp only [List.length_cons, List.length_append, List.length_nil] at hle ⊢; omega
        · intro y hy'
          simp [hy']
      · (repeat' (first | (k_unfold; (try dsimp only)) | (k_end; kc_close) | ((fail_if_success (first | (with_reducible show wpAny _ _ (pyIter _) _ _ _) | (with_reducible show wpAny _ _ (call (Value.ref _) _) _ _ _) | (with_reducible show LCg.CompSrc _ _ _ _ _ _ _ _ _ _ _ _ _ _) | (with_reducible show wpAny _ _ (exec (Stmt.While _ _ _ _) _) _ _ _))); walk1) | ((fail_if_success (first | (with_reducible show wpAny _ _ (pyIter _) _ _ _) | (with_reducible show wpAny _ _ (call (Value.ref _) _) _ _ _) | (with_reducible show LCg.CompSrc _ _ _ _ _ _ _ _ _ _ _ _ _ _) | (with_reducible show wpAny _ _ (exec (Stmt.While _ _ _ _) _) _ _ _))); dsimp only; walk1) | (leave1; walk_say "STEP leave1"; (try dsimp only)) | fail "no step"))
        rename Fr _ _ _ _ => F7
        rename News _ _ _ _ => N7
        rw [List.push_toArray] at N7
        refine UnrEnd.intro F7 N7 _ (fun q hq => hq) (List.forall_mem_cons.mpr ⟨Nat.ne_of_lt lIn, List.forall_mem_cons.mpr ⟨Nat.ne_of_lt lIy, fun q hq => Nat.ne_of_lt (lIr q hq)⟩⟩) ⟨.tail _ (.tail _ hrl), sr', vy ++ [_], vn, yss ++ [x], nss, cy + 1, cn, hr, StrsAre.append' hvy (.cons _ _ .nil), hvn, (fun z hz => hsub z (.tail _ hz)), ?_, ?_, ?_, rfl, ?_⟩
        · simpa [List.filter_cons, hpx] using hy
        · simpa [List.filter_cons, hpx] using hn
        · simp only [List.length_cons, List.length_append, List.length_nil] at hle ⊢; omega
        · intro y hy'
          simp [hy']
  case done =>
    rintro m' nx ⟨sr, vy, vn, yss, nss, cy, cn, hvr, hvy, hvn, hsub, hy, hn, hle, rfl, hm⟩ h tk F5 N5
    cases hvr
    have hme : m' = fun y => if y = Str.ofString "x" then m' (Str.ofString "x") else mapOf F4 y := funext fun y => by
      by_cases e : y = Str.ofString "x"
      · rw [if_pos e, e]
      · rw [if_neg e]; exact hm y e
    generalize m' (Str.ofString "x") = ox at hme
    clear hm
    subst hme
    dsimp only [mapOf] at F5
    simp only [List.filter_nil, List.append_nil] at hy hn
    rw [hy] at hvy
    rw [hn] at hvn
    (repeat' (first | (k_unfold; (try dsimp only)) | (k_end; kc_close) | ((fail_if_success (first | (with_reducible show wpAny _ _ (pyIter _) _ _ _) | (with_reducible show wpAny _ _ (call (Value.ref _) _) _ _ _) | (with_reducible show LCg.CompSrc _ _ _ _ _ _ _ _ _ _ _ _ _ _) | (with_reducible show wpAny _ _ (exec (Stmt.While _ _ _ _) _) _ _ _))); walk1) | ((fail_if_success (first | (with_reducible show wpAny _ _ (pyIter _) _ _ _) | (with_reducible show wpAny _ _ (call (Value.ref _) _) _ _ _) | (with_reducible show LCg.CompSrc _ _ _ _ _ _ _ _ _ _ _ _ _ _) | (with_reducible show wpAny _ _ (exec (Stmt.While _ _ _ _) _) _ _ _))); dsimp only; walk1) | (leave1; walk_say "STEP leave1"; (try dsimp only)) | fail "no step"))
    rename Fr _ _ _ _ => kF
    rename News _ _ _ _ => kN
    rename (_ ∧ _) => l3
    exact hret _ ya na vy vn cy cn _ _ kF kN l1 l2.1 l3.1 hvy hvn
end Mine
end
section
theorem Mine.fresh_StgH : True := by
  w_top off
  k_with_none
  trivial
open PySem PySem.W PyProof.Rows PySem.Calls PySem.Spec
namespace Mine
noncomputable def lawBody : List Stmt := match PySem.Challenge.pw_pe0130_01.main.body.reverse with
  | .FunctionDef _ _ body .. :: _ => body
  | _ => []
noncomputable def lawScope : Scope := match PySem.Challenge.pw_pe0130_01.main.body.reverse with
  | .FunctionDef _ _ _ _ _ _ scope .. :: _ => scope
  | _ => default
structure Goes (w : World) (A : Around) (body : List Stmt) (env : Env) (Q : Flow → Shared → Prop) (E : Value → Shared → Prop) (s : Shared) : Prop where
  go : wpAny (model PySem.Challenge.rw_pe0130_01.row.prog w) A (execs body env) Q E s
noncomputable abbrev env0 (L fa : Addr) : Env := envOfC (Str.ofString "law") lawScope L fa (.ref 72)

noncomputable def r1 (x a b : Str) : Str := Txt.join b (Txt.split x a)
noncomputable def okP (x y : Int) : Bool :=
  if y ≤ x then r1 (stairs 0 (x+y) y (x+y)) (Str.ofString "ab") (Str.ofString "b") == stairs 0 x y x && r1 (stairs 0 x y x) (Str.ofString "b") (Str.ofString "ab") == stairs 0 (x+y) y (x+y)
  else r1 (stairs 0 (x+y) y (x+y)) (Str.ofString "ab") (Str.ofString "a") == stairs 0 y (y-x) y && r1 (stairs 0 y (y-x) y) (Str.ofString "a") (Str.ofString "ab") == stairs 0 (x+y) y (x+y)
noncomputable def reach : List (Int × Int) := [(0, 1), (0, 2), (0, 4), (0, 8), (0, 16), (1, 1), (1, 2), (1, 3), (1, 4), (1, 5), (1, 6), (1, 7), (1, 8), (1, 9), (1, 10), (1, 11), (1, 12), (1, 13), (1, 14), (1, 15), (2, 1), (2, 2), (2, 3), (2, 4), (2, 5), (2, 6), (2, 7), (2, 8), (2, 9), (2, 10), (2, 11), (2, 12), (2, 13), (2, 14), (2, 15), (3, 1), (3, 2), (3, 4), (3, 5), (3, 7), (3, 10), (3, 13), (4, 1), (4, 2), (4, 3), (4, 4), (4, 5), (4, 6), (4, 8), (4, 10), (4, 12), (4, 14), (5, 1), (5, 2), (5, 3), (5, 4), (5, 6), (5, 9), (5, 11), (6, 1), (6, 2), (6, 4), (6, 5), (6, 7), (6, 10), (6, 13), (7, 1), (7, 2), (7, 3), (7, 6), (7, 9), (8, 0), (8, 1), (8, 2), (8, 4), (8, 8), (8, 12), (9, 1), (9, 2), (9, 5), (9, 7), (9, 14), (9, 23), (10, 1), (10, 2), (10, 3), (10, 4), (10, 6), (10, 11), (10, 12), (10, 22), (11, 1), (11, 2), (11, 5), (11, 10), (11, 21), (12, 1), (12, 2), (12, 4), (12, 8), (12, 10), (12, 20), (13, 1), (13, 2), (13, 3), (13, 6), (13, 19), (14, 1), (14, 2), (14, 4), (14, 9), (14, 18), (15, 1), (15, 2), (15, 17), (16, 0), (16, 8), (16, 16), (17, 15), (18, 14), (19, 13), (20, 12), (21, 11), (22, 10), (23, 9), (24, 8)]
noncomputable def okR (p : Int × Int) : Bool := if 0 < p.1 ∧ 0 < p.2 then okP p.1 p.2 && (if p.2 ≤ p.1 then reach.contains (p.1 - p.2, p.2) else reach.contains (p.1, p.2 - p.1)) else true
theorem okR_0 : ((reach.drop 0).take 10).all okR = true := by decide +kernel
theorem okR_1 : ((reach.drop 10).take 10).all okR = true := by decide +kernel
theorem okR_2 : ((reach.drop 20).take 10).all okR = true := by decide +kernel
theorem okR_3 : ((reach.drop 30).take 10).all okR = true := by decide +kernel
theorem okR_4 : ((reach.drop 40).take 10).all okR = true := by decide +kernel
theorem okR_5 : ((reach.drop 50).take 10).all okR = true := by decide +kernel
theorem okR_6 : ((reach.drop 60).take 10).all okR = true := by decide +kernel
theorem okR_7 : ((reach.drop 70).take 10).all okR = true := by decide +kernel
theorem okR_8 : ((reach.drop 80).take 10).all okR = true := by decide +kernel
theorem okR_9 : ((reach.drop 90).take 10).all okR = true := by decide +kernel
theorem okR_10 : ((reach.drop 100).take 10).all okR = true := by decide +kernel
theorem okR_11 : ((reach.drop 110).take 10).all okR = true := by decide +kernel
theorem okR_12 : ((reach.drop 120).take 10).all okR = true := by decide +kernel
theorem okR_13 : ((reach.drop 130).take 10).all okR = true := by decide +kernel
theorem all_take {α : Type} {q : α → Bool} {l : List α} {n : Nat} (h1 : (l.take n).all q = true) (h2 : (l.drop n).all q = true) : l.all q = true := by
  rw [← List.take_append_drop n l, List.all_append, h1, h2]; rfl
theorem okR_all : reach.all okR = true := by
  have hd : ∀ i, (reach.drop i).drop 10 = reach.drop (i + 10) := fun i => by rw [List.drop_drop]
  have h0 : (reach.drop 0).all okR = true := (all_take (n := 10) okR_0 (by rw [hd]; exact (all_take (n := 10) okR_1 (by rw [hd]; exact (all_take (n := 10) okR_2 (by rw [hd]; exact (all_take (n := 10) okR_3 (by rw [hd]; exact (all_take (n := 10) okR_4 (by rw [hd]; exact (all_take (n := 10) okR_5 (by rw [hd]; exact (all_take (n := 10) okR_6 (by rw [hd]; exact (all_take (n := 10) okR_7 (by rw [hd]; exact (all_take (n := 10) okR_8 (by rw [hd]; exact (all_take (n := 10) okR_9 (by rw [hd]; exact (all_take (n := 10) okR_10 (by rw [hd]; exact (all_take (n := 10) okR_11 (by rw [hd]; exact (all_take (n := 10) okR_12 (by rw [hd]; exact (all_take (n := 10) okR_13 (by decide))))))))))))))))))))))))))))
  exact h0
theorem okP_all {x y : Int} (hr : (x, y) ∈ reach) (hx : 0 < x) (hy : 0 < y) : okP x y = true ∧ (if y ≤ x then (x - y, y) ∈ reach else (x, y - x) ∈ reach) := by
  have h := List.all_eq_true.1 okR_all _ hr
  unfold okR at h
  rw [if_pos ⟨hx, hy⟩, Bool.and_eq_true] at h
  refine ⟨h.1, ?_⟩
  have h2 := h.2
  dsimp only at h2
  split at h2
  · rename_i hc
    rw [if_pos hc]
    exact List.contains_iff_mem.1 h2
  · rename_i hc
    rw [if_neg hc]
    exact List.contains_iff_mem.1 h2

theorem stairs_len (f s st c : Int) : (stairs f s st c).length = c.toNat := by
  unfold stairs
  rw [KT.join_ones _ (fun a ha => by obtain ⟨k, _, e⟩ := List.mem_map.1 ha; rw [← e]; exact sgn_len _ _ _ _), List.length_map, rangeKs_length]
theorem stairs_ge {x y : Int} (hx : 0 < x) (hy : 0 < y) (h : (x, y) ∈ reach) (hxy : y ≤ x) :
    replL (stairs 0 (x+y) y (x+y)) [Str.ofString "ab", Str.ofString "b"] = stairs 0 (x - y + y) y (x - y + y) ∧ replL (stairs 0 (x - y + y) y (x - y + y)) [Str.ofString "b", Str.ofString "ab"] = stairs 0 (x+y) y (x+y) := by
  have := (okP_all h hx hy).1
  unfold okP at this
  rw [if_pos hxy] at this
  simp only [Bool.and_eq_true, beq_iff_eq] at this
  have e : x - y + y = x := by omega
  rw [e]
  exact this
theorem stairs_lt {x y : Int} (hx : 0 < x) (hy : 0 < y) (h : (x, y) ∈ reach) (hxy : ¬ y ≤ x) :
    replL (stairs 0 (x+y) y (x+y)) [Str.ofString "ab", Str.ofString "a"] = stairs 0 (x + (y - x)) (y - x) (x + (y - x)) ∧ replL (stairs 0 (x + (y - x)) (y - x) (x + (y - x))) [Str.ofString "a", Str.ofString "ab"] = stairs 0 (x+y) y (x+y) := by
  have := (okP_all h hx hy).1
  unfold okP at this
  rw [if_neg hxy] at this
  simp only [Bool.and_eq_true, beq_iff_eq] at this
  have e : x + (y - x) = y := by omega
  rw [e]
  exact this
structure WSt where
  x : Int
  y : Int
  line : Str
  tx : Tok
  ty : Tok
  tl : Tok
  ta : Addr
  ba : Addr
  vt : List Value
  vb : List Value
  ct : Nat
  cb : Nat
  th : List Str
  bk : List Str

structure WInv (size step : Int) (word : Str) (c : WSt) : Prop where
  x0 : 0 ≤ c.x
  y0 : 0 ≤ c.y
  s0 : 0 < c.x + c.y
  s1 : c.x + c.y ≤ 32
  rch : (c.x, c.y) ∈ reach
  line : c.line = stairs 0 (c.x + c.y) c.y (c.x + c.y)
  g : Int.gcd c.x c.y = Int.gcd size step
  pos : 0 < step → 0 < c.y
  zer : step = 0 → c.y = 0
  thL : c.th.length ≤ 2 * (32 - (c.x + c.y).toNat)
  bkL : c.bk.length ≤ 2 * (32 - (c.x + c.y).toNat)
  th : replL word c.th = c.line
  thO : replOk word c.th
  bk : replL c.line c.bk = word
  bkO : replOk c.line c.bk

theorem replL_append : ∀ (a b : List Str) (x : Str), a.length % 2 = 0 → replL x (a ++ b) = replL (replL x a) b
  | [], _, _, _ => rfl
  | [_], _, _, h => by simp at h
  | _ :: _ :: a, b, x, h => replL_append a b _ (by simp only [List.length_cons] at h; omega)
theorem replOk_even : ∀ (a : List Str) (x : Str), replOk x a → a.length % 2 = 0
  | [], _, _ => rfl
  | [_], _, h => h.elim
  | _ :: _ :: a, _, h => by
    have := replOk_even a _ h.2.2.2.2
    simp only [List.length_cons]
    omega
theorem replOk_append : ∀ (a b : List Str) (x : Str), replOk x a → replOk (replL x a) b → replOk x (a ++ b)
  | [], _, _, _, h => h
  | [_], _, _, h, _ => h.elim
  | _ :: _ :: a, b, _, h, h' => ⟨h.1, h.2.1, h.2.2.1, h.2.2.2.1, replOk_append a b _ h.2.2.2.2 h'⟩
theorem len_up {n : Nat} {u v : Int} (h : n ≤ 2 * (32 - u.toNat)) (h1 : v < u) (h2 : u ≤ 32) (h3 : 0 < v) : n + 2 ≤ 2 * (32 - v.toNat) := by omega
theorem WInv.ge {size step : Int} {word line : Str} {x y : Int} {tx ty tl tx' ty' tl' : Tok} {ta ba ta' ba' : Addr} {vt vb vt' vb' : List Value} {ct cb : Nat} {th bk : List Str} (inv : WInv size step word ⟨x, y, line, tx, ty, tl, ta, ba, vt, vb, ct, cb, th, bk⟩)
    (hx : 0 < x) (hy : 0 < y) (hxy : y ≤ x) (e1 : replL line [Str.ofString "ab", Str.ofString "b"] = stairs 0 (x - y + y) y (x - y + y)) (e2 : replL (stairs 0 (x - y + y) y (x - y + y)) [Str.ofString "b", Str.ofString "ab"] = line)
    (hok : replOk line [Str.ofString "ab", Str.ofString "b"]) (hok' : replOk (stairs 0 (x - y + y) y (x - y + y)) [Str.ofString "b", Str.ofString "ab"]) :
    WInv size step word ⟨x - y, y, stairs 0 (x - y + y) y (x - y + y), tx', ty', tl', ta', ba', vt', vb', 0, 0, th ++ [Str.ofString "ab", Str.ofString "b"], Str.ofString "b" :: Str.ofString "ab" :: bk⟩ := by
  have i4 : x + y ≤ 32 := inv.s1
  have h1 := inv.thL
  have h2 := inv.bkL
  have hth : replL word th = line := inv.th
  have hbk : replL line bk = word := inv.bk
  dsimp only at h1 h2
  refine ⟨by show 0 ≤ x - y; omega, by show 0 ≤ y; omega, by show 0 < x - y + y; omega, by show x - y + y ≤ 32; omega, (by have := (okP_all inv.rch hx hy).2; rw [if_pos hxy] at this; exact this), rfl, ?_, inv.pos, inv.zer, ?_, ?_, ?_, ?_, ?_, ?_⟩
  · show Int.gcd (x - y) y = _
    rw [← inv.g]
    exact Int.gcd_sub_self_left y x
  · rw [List.length_append]
    exact len_up h1 (by show x - y + y < x + y; omega) i4 (by show 0 < x - y + y; omega)
  · exact len_up h2 (by show x - y + y < x + y; omega) i4 (by show 0 < x - y + y; omega)
  · show replL word (th ++ _) = _
    rw [replL_append _ _ _ (replOk_even _ _ inv.thO), hth]
    exact e1
  · exact replOk_append _ _ _ inv.thO (by show replOk (replL word th) _; rw [hth]; exact hok)
  · show replL _ ([Str.ofString "b", Str.ofString "ab"] ++ bk) = word
    rw [replL_append _ _ _ (by decide), e2]
    exact hbk
  · show replOk _ ([Str.ofString "b", Str.ofString "ab"] ++ bk)
    exact replOk_append _ _ _ hok' (by rw [e2]; exact inv.bkO)

theorem WInv.lt {size step : Int} {word line : Str} {x y : Int} {tx ty tl tx' ty' tl' : Tok} {ta ba ta' ba' : Addr} {vt vb vt' vb' : List Value} {ct cb : Nat} {th bk : List Str} (inv : WInv size step word ⟨x, y, line, tx, ty, tl, ta, ba, vt, vb, ct, cb, th, bk⟩)
    (hx : 0 < x) (hy : 0 < y) (hxy : ¬ y ≤ x) (e1 : replL line [Str.ofString "ab", Str.ofString "a"] = stairs 0 (x + (y - x)) (y - x) (x + (y - x))) (e2 : replL (stairs 0 (x + (y - x)) (y - x) (x + (y - x))) [Str.ofString "a", Str.ofString "ab"] = line)
    (hok : replOk line [Str.ofString "ab", Str.ofString "a"]) (hok' : replOk (stairs 0 (x + (y - x)) (y - x) (x + (y - x))) [Str.ofString "a", Str.ofString "ab"]) :
    WInv size step word ⟨x, y - x, stairs 0 (x + (y - x)) (y - x) (x + (y - x)), tx', ty', tl', ta', ba', vt', vb', 0, 0, th ++ [Str.ofString "ab", Str.ofString "a"], Str.ofString "a" :: Str.ofString "ab" :: bk⟩ := by
  have i4 : x + y ≤ 32 := inv.s1
  have h1 := inv.thL
  have h2 := inv.bkL
  have hth : replL word th = line := inv.th
  have hbk : replL line bk = word := inv.bk
  dsimp only at h1 h2
  refine ⟨by show 0 ≤ x; omega, by show 0 ≤ y - x; omega, by show 0 < x + (y - x); omega, by show x + (y - x) ≤ 32; omega, (by have := (okP_all inv.rch hx hy).2; rw [if_neg hxy] at this; exact this), rfl, ?_, fun _ => by show 0 < y - x; omega, fun hz => by have hh : y = 0 := inv.zer hz; omega, ?_, ?_, ?_, ?_, ?_, ?_⟩
  · show Int.gcd x (y - x) = _
    rw [← inv.g]
    exact Int.gcd_sub_self_right x y
  · rw [List.length_append]
    exact len_up h1 (by show x + (y - x) < x + y; omega) i4 (by show 0 < x + (y - x); omega)
  · exact len_up h2 (by show x + (y - x) < x + y; omega) i4 (by show 0 < x + (y - x); omega)
  · show replL word (th ++ _) = _
    rw [replL_append _ _ _ (replOk_even _ _ inv.thO), hth]
    exact e1
  · exact replOk_append _ _ _ inv.thO (by show replOk (replL word th) _; rw [hth]; exact hok)
  · show replL _ ([Str.ofString "a", Str.ofString "ab"] ++ bk) = word
    rw [replL_append _ _ _ (by decide), e2]
    exact hbk
  · show replOk _ ([Str.ofString "a", Str.ofString "ab"] ++ bk)
    exact replOk_append _ _ _ hok' (by rw [e2]; exact inv.bkO)

end Mine
end
section
theorem Mine.fresh_CSetA : True := by
  w_top off
  k_with_none
  trivial
open PySem PySem.W PyProof.Rows PySem.Calls PySem.Spec
namespace Mine
structure Ent (es : Array (Int × Value)) (hs : Array Int) : Prop where
  fst : es.map (·.1) = hs
  allI : ∀ e ∈ es.toList, ∃ tk, e.2 = .int e.1 tk
theorem Ent.size {es : Array (Int × Value)} {hs : Array Int} (h : Ent es hs) : es.size = hs.size := by rw [← h.fst, Array.size_map]
theorem map_insertAt {α β : Type} (f : α → β) (xs : Array α) (p : Nat) (x : α) : (SetTable.insertAt xs p x).map f = SetTable.insertAt (xs.map f) p (f x) := by
  simp [SetTable.insertAt]
theorem mem_insertAt {α : Type} {xs : Array α} {p : Nat} {x y : α} (h : y ∈ (SetTable.insertAt xs p x).toList) : y ∈ xs.toList ∨ y = x := by
  have := (SetTable.insertAt_perm xs p x).mem_iff.mp h
  simpa using this
theorem Ent.insert {es : Array (Int × Value)} {hs : Array Int} (h : Ent es hs) (p : Nat) (x : Int) (tk : Tok) : Ent (SetTable.insertAt es p (x, .int x tk)) (SetTable.insertAt hs p x) := by
  refine ⟨by rw [map_insertAt, h.fst], fun e he => ?_⟩
  rcases mem_insertAt he with he | rfl
  · exact h.allI e he
  · exact ⟨tk, rfl⟩
theorem Ent.push {es : Array (Int × Value)} {hs : Array Int} (h : Ent es hs) (x : Int) (tk : Tok) : Ent (es.push (x, .int x tk)) (hs.push x) := by
  refine ⟨by rw [Array.map_push, h.fst], fun e he => ?_⟩
  rw [Array.toList_push] at he
  rcases List.mem_append.mp he with he | he
  · exact h.allI e he
  · rw [List.mem_singleton] at he; subst he; exact ⟨tk, rfl⟩
theorem Ent.pick {es : Array (Int × Value)} {hs : Array Int} (h : Ent es hs) (order : Array Nat) : Ent (order.filterMap (es[·]?)) (order.filterMap (hs[·]?)) := by
  refine ⟨?_, fun e he => ?_⟩
  · rw [← h.fst, Array.map_filterMap]
    congr 1
    funext i
    simp
  · rw [Array.toList_filterMap] at he
    obtain ⟨i, _, hi⟩ := List.mem_filterMap.mp he
    rw [← Array.getElem?_toList] at hi
    exact h.allI e (List.mem_of_getElem? hi)

noncomputable def relayH (t : SetTable) (hs : Array Int) : Array Int × SetTable :=
  match t.relaid hs (SetTable.grown hs.size) with
  | some (t', order) =>
    let hs' := order.filterMap (hs[·]?)
    if coversAll order hs.size && t'.fits hs'.size then (hs', t') else (hs, t.standIn hs.size)
  | none => (hs, t.standIn hs.size)
noncomputable def layH (t : SetTable) (hs : Array Int) (h : Int) : Array Int × SetTable × Bool :=
  match t.freeSlot h with
  | some (slot, wasDummy) => (SetTable.insertAt hs (t.put slot).2 h, (t.put slot).1.orStandIn (SetTable.insertAt hs (t.put slot).2 h).size, wasDummy)
  | none => (hs.push h, t.standIn (hs.size + 1), false)
noncomputable def addH (st : Array Int × SetTable) (h : Int) : Array Int × SetTable :=
  if st.1.any (· == h) then st else
  let r := layH st.2 st.1 h
  if !r.2.2 && r.2.1.tooFull then relayH r.2.1 r.1 else (r.1, r.2.1)

theorem lay_ent {es : Array (Int × Value)} {hs : Array Int} (h : Ent es hs) (t : SetTable) (x : Int) (tk : Tok) :
    Ent (layNew t es x (.int x tk)).1 (layH t hs x).1 ∧ (layNew t es x (.int x tk)).2.1 = (layH t hs x).2.1 ∧ (layNew t es x (.int x tk)).2.2.1 = (layH t hs x).2.2 := by
  unfold layNew layH
  cases t.freeSlot x with
  | none => exact ⟨h.push x tk, by dsimp only; rw [h.size], rfl⟩
  | some p =>
    obtain ⟨slot, wd⟩ := p
    dsimp only
    have hi := h.insert (t.put slot).2 x tk
    exact ⟨hi, by rw [hi.size], rfl⟩
theorem relay_ent {es : Array (Int × Value)} {hs : Array Int} (h : Ent es hs) (t : SetTable) :
    Ent (relayAll t es (SetTable.grown es.size)).1 (relayH t hs).1 ∧ (relayAll t es (SetTable.grown es.size)).2.1 = (relayH t hs).2 := by
  unfold relayAll relayH
  rw [h.fst, h.size]
  cases t.relaid hs (SetTable.grown hs.size) with
  | none => exact ⟨h, rfl⟩
  | some p =>
    obtain ⟨t', order⟩ := p
    dsimp only
    have hp := h.pick order
    rw [hp.size]
    split
    · exact ⟨hp, rfl⟩
    · exact ⟨h, rfl⟩
theorem hashInt_small {x : Int} (h : 0 ≤ x) (h' : x < 64) : hashInt x = x := by
  have : ∀ n : Nat, n < 64 → hashInt (n : Int) = n := by decide +kernel
  have := this x.toNat (by omega)
  rwa [show ((x.toNat : Nat) : Int) = x by omega] at this
noncomputable def SetAt (h : Heap) (a : Addr) (hs : Array Int) (t : SetTable) (n : Nat) : Prop :=
  ∃ o es ep, h.get? a = some o ∧ o.ExactSet ∧ o.data = .set es ep t ∧ Ent es hs ∧ (∀ x ∈ hs.toList, 0 ≤ x ∧ x < 64) ∧ es.size ≤ n ∧ t.fits es.size = true
theorem Ent.elems {prog : Program} {w : World} {es : Array (Int × Value)} {hs : Array Int} (h : Ent es hs) (hb : ∀ x ∈ hs.toList, 0 ≤ x ∧ x < 64) : ElemsOf (intKind prog w) es.toList := by
  intro e he
  obtain ⟨tk, et⟩ := h.allI e he
  have hm : e.1 ∈ hs.toList := by rw [← h.fst, Array.toList_map]; exact List.mem_map.mpr ⟨e, he, rfl⟩
  obtain ⟨b1, b2⟩ := hb _ hm
  refine ⟨⟨e.1, by rw [et]; exact intKind_is _ _ _ _, ?_⟩, by rw [et]; rfl⟩
  show e.1 = hashInt e.1
  rw [hashInt_small b1 b2]
theorem Ent.find {prog : Program} {w : World} {es : Array (Int × Value)} {hs : Array Int} (h : Ent es hs) (x : Int) : es.toList.any (fun e => (intKind prog w).is x e.2) = hs.any (· == x) := by
  rw [← h.fst, Array.any_map, ← Array.any_toList]
  have : ∀ l : List (Int × Value), (∀ e ∈ l, ∃ tk, e.2 = .int e.1 tk) → l.any (fun e => (intKind prog w).is x e.2) = l.any ((fun y => y == x) ∘ fun e => e.1) := by
    intro l hl
    induction l with
    | nil => rfl
    | cons e l ih =>
      obtain ⟨tk, et⟩ := hl e (.head _)
      rw [List.any_cons, List.any_cons, ih fun e he => hl e (.tail _ he), et]
      congr 1
  exact this _ h.allI
section
variable {prog : Program} {w : World} {A : Around} {E : Value → Shared → Prop} {s : Shared}
theorem SetAt.update {h : Heap} {a : Addr} {o : Obj} {es es' : Array (Int × Value)} {ep : Nat} {t t' : SetTable} {hs' : Array Int} {n : Nat} (ho : h.get? a = some o) (hx : o.ExactSet) (hd : o.data = .set es ep t)
    (he : Ent es' hs') (hb : ∀ x ∈ hs'.toList, 0 ≤ x ∧ x < 64) (hz : es'.size ≤ n) (hf : t'.fits es'.size = true) :
    (h.update a (Obj.putSet es' t')).get? a = some { o with data := .set es' (ep + 1) t' } ∧ SetAt (h.update a (Obj.putSet es' t')) a hs' t' n := by
  have hg : (h.update a (Obj.putSet es' t')).get? a = some { o with data := .set es' (ep + 1) t' } := by
    have := Heap.get?_update_self (Obj.putSet es' t') ho (by rw [putSet_of es' t' hd]; rfl)
    rw [putSet_of es' t' hd] at this; exact this
  exact ⟨hg, _, es', ep + 1, hg, hx, rfl, he, hb, hz, hf⟩
theorem mem_of_perm {l l' : List Int} {x : Int} (p : l.Perm (l' ++ [x])) (hb : ∀ x ∈ l', 0 ≤ x ∧ x < 64) (hx : 0 ≤ x ∧ x < 64) : ∀ y ∈ l, 0 ≤ y ∧ y < 64 := fun y hy => by
  rcases List.mem_append.mp (p.mem_iff.mp hy) with h | h
  · exact hb y h
  · rw [List.mem_singleton.mp h]; exact hx
theorem Ent.bound {es es' : Array (Int × Value)} {hs hs' : Array Int} {x : Int} {v : Value} (h : Ent es hs) (h' : Ent es' hs') (p : es'.toList.Perm (es.toList ++ [(x, v)])) (hb : ∀ x ∈ hs.toList, 0 ≤ x ∧ x < 64) (hx : 0 ≤ x ∧ x < 64) : ∀ y ∈ hs'.toList, 0 ≤ y ∧ y < 64 := by
  refine mem_of_perm (l' := hs.toList) (x := x) ?_ hb hx
  rw [← h'.fst, ← h.fst, Array.toList_map, Array.toList_map]
  have := p.map (·.1)
  simpa using this
theorem add_step {a : Addr} {hs : Array Int} {t : SetTable} {x : Int} {tk : Tok} {n : Nat} {Q : Bool → Shared → Prop} (hS : SetAt s.heap a hs t n) (hz : n + 1 < 1000) (hx : 0 ≤ x ∧ x < 64)
    (h : ∀ b h', Heap.SameBut a s.heap h' → SetAt h' a (addH (hs, t) x).1 (addH (hs, t) x).2 (n + 1) → Q b { s with heap := h' }) :
    wpAny (model prog w) A (setAddHashed a (.int x tk) x) Q E s := by
  obtain ⟨o, es, ep, ho, hex, hd, he, hb, hz', hf⟩ := hS
  have hel := he.elems (prog := prog) (w := w) hb
  have hes := he.size
  unfold setAddHashed setAddHashedIn
  refine wpAny_holding (wpAny_bind (wpAny_setState_of ho hd hf ?_))
  dsimp only
  rw [byScan_of (knd := intKind prog w) rfl (by unfold scanBound; omega) hel]
  simp only [↓reduceIte]
  unfold setAddByScan
  refine wpAny_bind ?_
  refine wpAny_bind (wpAny_rule ?_)
  have hsc : ∀ Q' : ScanMet → Shared → Prop, _ → wpAny (model prog w) A (setScan a (.int x tk) ((intKind prog w).hash x) true es) Q' E s := fun Q' => wpAny_setScan_of (Q := Q') (prog := prog) (w := w) (knd := intKind prog w) (A := A) (E := E) (s := s) (adding := true) (k := x) (x := .int x tk) (intKind_is _ _ _ _) ho hd hf hel
  rw [show (intKind prog w).hash x = x from hashInt_small hx.1 hx.2] at hsc
  refine wpAny_bind (hsc _ ?_)
  have hany := he.find (prog := prog) (w := w) x
  cases hr : List.findIdx? (fun e => (intKind prog w).is x e.2) es.toList with
  | some j =>
    dsimp only
    obtain ⟨hj, hpj, _⟩ := List.findIdx?_eq_some_iff_getElem.mp hr
    have hA : hs.any (· == x) = true := by
      rw [← hany]
      exact List.any_eq_true.mpr ⟨_, List.getElem_mem hj, hpj⟩
    refine wpAny_pure (wpAny_pure ?_)
    have e : s = { s with heap := s.heap } := by cases s; rfl
    have := h false s.heap (Heap.SameBut.refl a s.heap) (by
      unfold addH
      rw [if_pos hA]
      exact ⟨o, es, ep, ho, hex, hd, he, hb, by omega, hf⟩)
    rw [e]; exact this
  | none =>
    dsimp only
    have hA : hs.any (· == x) = false := by
      rw [← hany, List.any_eq_false]
      intro e hem
      have := List.findIdx?_eq_none_iff.mp hr e hem
      rw [this]; exact Bool.noConfusion
    have hlay := lay_ent he t x tk
    have hperm := layNew_perm t es x (.int x tk)
    have hfits := layNew_fits t es x (.int x tk)
    have hadd : addH (hs, t) x = if !(layH t hs x).2.2 && (layH t hs x).2.1.tooFull then relayH (layH t hs x).2.1 (layH t hs x).1 else ((layH t hs x).1, (layH t hs x).2.1) := by
      unfold addH
      rw [if_neg (by simp [hA])]
    rw [hadd] at h
    generalize layNew t es x (.int x tk) = R at hlay hperm hfits ⊢
    generalize layH t hs x = R' at hlay h
    obtain ⟨es1, t1, wd, gave⟩ := R
    obtain ⟨hs1, t1', wd'⟩ := R'
    dsimp only at hlay hperm hfits h ⊢
    obtain ⟨he1, rfl, rfl⟩ := hlay
    rw [Array.toList_push] at hperm
    have hb1 := Ent.bound he he1 hperm hb hx
    have hsz1 : es1.size = es.size + 1 := by rw [← Array.length_toList, hperm.length_eq, List.length_append, Array.length_toList]; rfl
    have hg : ∀ (b : Bool) (s₁ : Shared) (Q' : Unit → Shared → Prop), Q' () s₁ → wpAny (model prog w) A (match b with | true => rule "set.scan.the-table-gave-way" | false => pure ()) Q' E s₁ :=
      fun b s₁ Q' hq => by cases b <;> first | exact wpAny_pure hq | exact wpAny_rule hq
    have tail : ∀ Q' : Option Bool → Shared → Prop, (∀ h', Heap.SameBut a s.heap h' → SetAt h' a (if (!wd && t1.tooFull) = true then relayH t1 hs1 else (hs1, t1)).1 (if (!wd && t1.tooFull) = true then relayH t1 hs1 else (hs1, t1)).2 (n + 1) → Q' (some true) { s with heap := h' }) →
        wpAny (model prog w) A (do
          storeSet a es1 t1
          if (!wd && t1.tooFull) = true then do
              (match (relayAll t1 es1 (SetTable.grown es1.size)).2.2 with | true => rule "set.scan.the-table-gave-way" | false => pure ())
              storeSet a (relayAll t1 es1 (SetTable.grown es1.size)).1 (relayAll t1 es1 (SetTable.grown es1.size)).2.1
              pure (some true)
            else pure (some true)) Q' E s := fun Q' hQ' => by
      have hfit : ∀ n, n < 1001 → n ≤ sizeLine := fun n hn => by rw [sizeLine_eq]; omega
      refine wpAny_bind (wpAny_storeSet_of ho hd ?_ (hfit _ (by omega)))
      obtain ⟨ho1, hS1⟩ := SetAt.update (t' := t1) (n := n + 1) ho hex hd he1 hb1 (by omega) hfits
      have hsb1 := Heap.SameBut.update s.heap a (Obj.putSet es1 t1)
      by_cases hc : (!wd && t1.tooFull) = true
      · rw [if_pos hc] at hQ' ⊢
        have hrel := relay_ent he1 t1
        have hp := relayAll_perm t1 es1 (SetTable.grown es1.size)
        have hfr := relayAll_fits t1 es1 (SetTable.grown es1.size)
        generalize relayAll t1 es1 (SetTable.grown es1.size) = Rl at hrel hp hfr ⊢
        generalize relayH t1 hs1 = Rh at hrel hQ'
        obtain ⟨es2, t3, gave2⟩ := Rl
        obtain ⟨hs2, t3'⟩ := Rh
        dsimp only at hrel hp hfr hQ' ⊢
        obtain ⟨he2, rfl⟩ := hrel
        have hsz : es2.size = es1.size := by rw [← Array.length_toList, hp.length_eq, Array.length_toList]
        have hb2 : ∀ y ∈ hs2.toList, 0 ≤ y ∧ y < 64 := fun y hy => by
          rw [← he2.fst, Array.toList_map] at hy
          rw [← he1.fst, Array.toList_map] at hb1
          exact hb1 y ((hp.map _).mem_iff.mp hy)
        refine wpAny_bind (hg _ _ _ ?_)
        refine wpAny_bind (wpAny_storeSet_of ho1 rfl ?_ (hfit _ (by omega)))
        obtain ⟨_, hS2⟩ := SetAt.update (t' := t3) (n := n + 1) ho1 hex rfl he2 hb2 (by omega) hfr
        exact wpAny_pure (hQ' _ (hsb1.trans (Heap.SameBut.update _ a _)) hS2)
      · rw [if_neg hc] at hQ' ⊢
        exact wpAny_pure (hQ' _ hsb1 hS1)
    refine wpAny_bind (hg _ _ _ ?_)
    split
    · refine wpAny_bind ?_
      rw [hashByValue_scannable 8 rfl]
      refine wpAny_pure (tail _ fun h' h1 h2 => ?_)
      exact wpAny_pure (h true h' h1 h2)
    · refine wpAny_bind (wpAny_pure ?_)
      exact tail _ fun h' h1 h2 => wpAny_pure (h true h' h1 h2)
end

noncomputable def setOf (led : Bool) (ns : List Int) : Array Int × SetTable := ns.foldl addH (#[], .fresh 0 0 led)
theorem setOf_snoc (led : Bool) (ns : List Int) (x : Int) : setOf led (ns ++ [x]) = addH (setOf led ns) x := by unfold setOf; rw [List.foldl_append]; rfl
noncomputable def byText (w : World) : Bool := w.params.followText "set-order"

section
variable {prog : Program} {w : World} {A : Around} {R : Result → Shared → Prop} {I : Addr} {fp wr : List Addr} {G : Array GenState → Array GenState → Prop} {P : Nat → Value → Prop} {St : Nat → Shared → Prop}
theorem set_loop (ns : List Int) (led : Bool) (W : WalksS prog w A.in1 I fp wr G ns.length P St) (S : Addr) (hSf : S ∉ fp)
    (hval : ∀ i v, P i v → ∃ x t, ns[i]? = some x ∧ v = .int x t) (hb : ns.length < 900) (hr : ∀ x ∈ ns, 0 ≤ x ∧ x < 64) :
    ∀ (k i : Nat) (s : Shared), ns.length - i = k → i ≤ ns.length → St i s → SetAt s.heap S (setOf led (ns.take i)).1 (setOf led (ns.take i)).2 i →
      (∀ s', Moved (S :: wr) G s s' → SetAt s'.heap S (setOf led ns).1 (setOf led ns).2 ns.length → R (.ok (.ret .none)) s') →
      codeAny (model prog w) A (.builtin "set.update.loop" ⟨[.ref S, .ref I], []⟩) R s := by
  have hSw : S ∉ wr := fun h => hSf (W.sub _ h)
  have hsub : ∀ b ∈ wr, b ∈ S :: wr := fun b hb => List.mem_cons_of_mem _ hb
  intro k
  induction k with
  | zero =>
    intro i s hk hi hst hS hR
    have hin : i = ns.length := by omega
    subst hin
    refine codeAny_builtin F.entry_set_update_loop ?_
    rw [Around.under_plainId F.plain_set_update_loop _]
    show wpAny _ A.in1 (pyNext (.ref I) >>= _) _ _ s
    refine wpAny_bind (W.done s _ _ hst fun s' hm => ?_)
    show wpAny _ A.in1 (ret Value.none) _ _ s'
    rw [List.take_length] at hS
    exact wpAny_pure (hR s' (hm.mono hsub) (by
      obtain ⟨o, es, ep, ho, rest⟩ := hS
      exact ⟨o, es, ep, hm.heap S _ hSw ho, rest⟩))
  | succ k ih =>
    intro i s hk hi hst hS hR
    have hlt : i < ns.length := by omega
    refine codeAny_builtin F.entry_set_update_loop ?_
    rw [Around.under_plainId F.plain_set_update_loop _]
    show wpAny _ A.in1 (pyNext (.ref I) >>= _) _ _ s
    refine wpAny_bind (W.item i s _ _ hlt hst fun v s' hP hst' hm => ?_)
    obtain ⟨x, t, hx, rfl⟩ := hval i v hP
    have hxr := hr x (List.mem_of_getElem? hx)
    have hS' : SetAt s'.heap S (setOf led (ns.take i)).1 (setOf led (ns.take i)).2 i := by
      obtain ⟨o, es, ep, ho, rest⟩ := hS
      exact ⟨o, es, ep, hm.heap S _ hSw ho, rest⟩
    show wpAny _ A.in1 (holding [Value.int x t] (setAdd S (.int x t)) >>= _) _ _ s'
    refine wpAny_bind (wpAny_holding ?_)
    unfold setAdd
    refine wpAny_holding ?_
    refine wpAny_bind ((intKind prog w).pyHash (k := x) (intKind_is _ _ _ _) ?_)
    rw [show (intKind prog w).hash x = x from hashInt_small hxr.1 hxr.2]
    refine add_step (s := { s' with toks := s'.toks + 1 }) hS' (by omega) hxr fun b h' hsb hS2 => ?_
    have hSi : SetAt h' S (setOf led (ns.take (i + 1))).1 (setOf led (ns.take (i + 1))).2 (i + 1) := by
      rw [List.take_add_one, hx]
      show SetAt h' S (setOf led (ns.take i ++ [x])).1 (setOf led (ns.take i ++ [x])).2 (i + 1)
      rw [setOf_snoc]
      exact hS2
    refine wpAny_pure ⟨plainId_quiet F.plain_set_update_loop _, ih (i + 1) _ (by omega) hlt (W.frame _ s' _ _ hst' (Nat.le_succ _) fun b hb o e => ?_) hSi fun s'' hm'' hS'' => ?_⟩
    · rw [hsb.2 b (fun h : b = S => hSf (by rw [← h]; exact hb))]; exact e
    · refine hR s'' (Moved.trans W.gtrans ((hm.mono hsub).then_heap (Nat.le_succ _) fun b o hb e => ?_) hm'') hS''
      rw [hsb.2 b (fun h : b = S => hb (by rw [h]; exact List.mem_cons_self))]; exact e
end
end Mine
end
section
theorem Mine.fresh_CSetB : True := by
  w_top off
  k_with_none
  trivial
open PySem PySem.W PyProof.Rows PySem.Calls PySem.Spec
namespace Mine
section
variable {prog : Program} {w : World} {A : Around} {E : Value → Shared → Prop} {s : Shared}
noncomputable abbrev setObj (w : World) : Obj := { cls := .type "set", dict := none, data := .set #[] 0 (.fresh 0 0 (!byText w)) }
theorem set_new_code (a : Value) {Q₁ : Value → Shared → Prop}
    (h : Q₁ (.ref s.heap.objs.size) { s with heap := s.heap.push (setObj w) }) :
    codeAny (model prog w) A (.call (.builtin "set.__new__") ⟨[.type "set", a], []⟩) (wants Q₁ E) s := by
  refine codeAny_of_tree ?_
  show wpAny _ A.in1 (do checkBuiltinCall "set.__new__" ⟨[.type "set", a], []⟩; again (.builtin "set.__new__" ⟨[.type "set", a], []⟩)) _ _ s
  refine wpAny_bind (wpAny_of_eq (F.newCall_set_1 a) (wpAny_pure ⟨plainId_quiet F.plain_set_new _, codeAny_builtin F.entry_set_new ?_⟩))
  rw [Around.under_plainId F.plain_set_new _]
  unfold Builtin.«set.__new__» Builtin.Frozenset.newClass
  have hsub := sub_set_self
  obtain ⟨hp, g, d, tk, os⟩ := s
  dsimp only
  wp_walk
  refine wpAny_askSetting (wpAny_pure ?_)
  dsimp only
  simp only [newObj]
  refine wpAny_bind (wpAny_alloc (wpAny_pure ?_))
  exact wpAny_pure h
theorem setAt_fresh {h : Heap} {a : Addr} (ho : h.get? a = some (setObj w)) : SetAt h a (setOf (!byText w) []).1 (setOf (!byText w) []).2 0 :=
  ⟨_, #[], 0, ho, ⟨rfl, rfl, rfl⟩, rfl, ⟨by simp [setOf], fun e he => by simp at he⟩, fun x hx => by simp [setOf] at hx, Nat.le_refl _, by cases byText w <;> decide⟩

set_option maxRecDepth 100000 in
set_option maxHeartbeats 3200000 in
theorem call_set {l : Addr} {items : Array Value} {ns : List Int} {Q : Value → Shared → Prop}
    (hh : A.handled = none) (hl : s.heap.IsList l items) (hi : IntsAre items.toList ns) (hb : ns.length < 900) (hr : ∀ x ∈ ns, 0 ≤ x ∧ x < 64)
    (h : ∀ (h' : Heap) (tk : Nat), SetAt h' s.heap.objs.size (setOf (!byText w) ns).1 (setOf (!byText w) ns).2 ns.length →
      (∀ b o, b < s.heap.objs.size → s.heap.get? b = some o → h'.get? b = some o) → Q (.ref s.heap.objs.size) { s with heap := h', toks := tk }) :
    wpAny (model prog w) A (call (.type "set") [.ref l]) Q E s := by
  obtain ⟨c, tl, hmro⟩ := F.called_set.mro
  have hmade := F.called_set.made
  have hsub := F.called_set.sub
  have hlen := IntsAre.length hi
  refine wpAny_call (codeAny_of_tree ?_)
  show wpAny _ _ (callAny (.type "set") _) _ _ _
  refine wpAny_pure ⟨Code.quiet_builtin _ (by decide +kernel), codeAny_builtin F.entry_type_call ?_⟩
  rw [Around.under_plain (weight_type_call_type "set" [.ref l] []) rfl]
  have h1 := F.called_set.notType
  have h2 := F.called_set.canCreate
  have hct := F.typeCall_set_1 (.ref l)
  repeat (any_goals (first | assumption | wp_step))
  refine codeAny_mono (set_new_code (.ref l) (E := E) (Q₁ := fun obj s₁ => obj = .ref s.heap.objs.size ∧ s₁ = { s with heap := s.heap.push (setObj w) }) ⟨rfl, rfl⟩) fun r s₁ hr' => ?_
  cases r with
  | error e => exact hr'
  | ok fl =>
    cases fl with
    | ret obj =>
      obtain ⟨rfl, rfl⟩ := hr'
      have hS : (s.heap.push (setObj w)).get? s.heap.objs.size = some (setObj w) := Heap.get?_push_size _ rfl
      have hT : Shared.TypeIs { s with heap := s.heap.push (setObj w) } (.ref s.heap.objs.size) "set" := ⟨_, hS, rfl⟩
      have hli := F.called_set.init.lookup
      have hbi := F.called_set.init.bind (.ref s.heap.objs.size)
      repeat (any_goals (first | assumption | wp_step))
      refine codeAny_mono (codeAny_call_builtin (R := wants (fun r s₂ => r = .none ∧ ∃ h' tk, s₂ = { s with heap := h', toks := tk } ∧
          SetAt h' s.heap.objs.size (setOf (!byText w) ns).1 (setOf (!byText w) ns).2 ns.length ∧
          (∀ b o, b < s.heap.objs.size → s.heap.get? b = some o → h'.get? b = some o)) E) F.called_set.init.plain F.entry_set_init (check_set_init_1 hT ?_)) fun r₂ s₂ hr₂ => ?_
      · obtain ⟨ol, hol, hcl, nl, hdl⟩ := hl
        obtain ⟨ocls, odict, odata, oslots⟩ := ol
        simp only at hcl hdl
        subst hcl; subst hdl
        have hol' : (s.heap.push (setObj w)).get? l = some { cls := .type "list", dict := odict, data := .seq items nl, slots := oslots } := Heap.get?_push_of_some _ hol
        have hsls := F.sub_list_set
        have hslf := F.sub_list_frozenset
        have hne : (Value.type "list" == Value.type "dict") = false := by decide
        have hl1 : (s.heap.push (setObj w)).IsList l items := ⟨_, hol', rfl, nl, rfl⟩
        unfold Builtin.«set.__init__» noKeywords Builtin.Frozenset.updateFrom
        generalize hPI : pyIter = PI
        wp_walk
        subst hPI
        refine wpAny_pyIter_list hl1 ?_
        refine wpAny_bind (wpAny_runValue ?_)
        have hlS : l < s.heap.objs.size := Heap.lt_size hol
        have hh3 : A.in1.in1.in1.handled = none := by simp [hh]
        have hneI : l ≠ (s.heap.push (setObj w)).objs.size := by
          rw [Heap.size_push]; exact Nat.ne_of_lt (Nat.lt_succ_of_lt hlS)
        have hSf : s.heap.objs.size ∉ [(s.heap.push (setObj w)).objs.size, l] := by
          rw [Heap.size_push]; simp only [List.mem_cons, List.mem_singleton, List.not_mem_nil, or_false, not_or]
          exact ⟨Nat.ne_of_lt (Nat.lt_succ_self _), Nat.ne_of_gt hlS⟩
        have W := (Walks.list (prog := prog) (w := w) hh3 _ l hneI items).toS
        rw [show items.size = ns.length by rw [← hlen, Array.length_toList]] at W
        have hval : ∀ (i : Nat) (v : Value), items[i]? = some v → ∃ x t, ns[i]? = some x ∧ v = .int x t := fun i v hv => by
          rw [← Array.getElem?_toList] at hv
          obtain ⟨t, e⟩ := IntsAre.int_at hi i v hv
          have hlt : i < ns.length := by rw [← hlen]; exact (List.getElem?_eq_some_iff.mp hv).1
          exact ⟨ns.getD i 0, t, by simp [List.getD_eq_getElem?_getD, hlt], e⟩
        refine set_loop ns (!byText w) W s.heap.objs.size hSf hval hb hr (ns.length - 0) 0 _ rfl (Nat.zero_le _)
          ⟨⟨_, Heap.get?_push_size _ rfl, rfl, rfl⟩, (hl1.push _)⟩ ?hS0 ?hR
        case hS0 => exact setAt_fresh (Heap.get?_push_of_some _ hS)
        case hR =>
          intro s' hm hS'
          obtain ⟨h', g', d', tk', os'⟩ := s'
          have eg : g' = s.gens := hm.gens
          have ed : d' = s.drawn := hm.drawn
          have eo : os' = s.os := hm.os
          subst eg; subst ed; subst eo
          show wpAny _ _ _ _ _ _
          refine wpAny_pure ?_
          show wpAny _ _ (ret Value.none) _ _ _
          refine wpAny_pure ⟨rfl, h', tk', rfl, hS', fun b o hb e => ?_⟩
          have hb1 : b ≠ s.heap.objs.size := Nat.ne_of_lt hb
          have hb2 : b ≠ (s.heap.push (setObj w)).objs.size := by
            rw [Heap.size_push]; exact Nat.ne_of_lt (Nat.lt_succ_of_lt hb)
          exact hm.heap b o (by simp only [List.mem_cons, List.mem_singleton, List.not_mem_nil, or_false, not_or]; exact ⟨hb1, hb2⟩) (Heap.get?_push_of_some _ (Heap.get?_push_of_some _ e))
      · cases r₂ with
        | error e => exact hr₂
        | ok fl₂ =>
          cases fl₂ with
          | ret r =>
            obtain ⟨rfl, h', tk, rfl, hS', hk'⟩ := hr₂
            repeat (any_goals (first | assumption | wp_step))
            exact h _ _ hS' hk'
          | _ => exact hr₂.elim
    | _ => exact hr'.elim
end
end Mine
end
section
theorem Mine.fresh_CSetC : True := by
  w_top off
  k_with_none
  trivial
open PySem PySem.W PyProof.Rows PySem.Calls PySem.Spec
set_option maxRecDepth 100000
namespace Mine
theorem entry_set_iter : entryFor table "set.__iter__" = some Builtin.«frozenset.__iter__» :=
  entryFor_alias (id' := "frozenset.__iter__") (by rw [fastTable_eq_tree]; kernel_rfl) rfl (by decide +kernel) (by rw [fastTable_eq_tree]; kernel_rfl)
theorem slot_si_next : Slot "set_iterator" "__next__" "set_iterator.__next__" :=
  .of (owner := "set_iterator") (n := "__next__") (by rw [typeLookup_type, builtinLookup_eq_fast]; kernel_rfl) (by decide +kernel) (by decide +kernel) (by decide +kernel)
    (by first | exact .inl (by decide +kernel) | exact .inr (by decide +kernel)) (by rw [isSubtype_type]; kernel_rfl)
theorem slot_si_iter : Slot "set_iterator" "__iter__" "set_iterator.__iter__" :=
  .of (owner := "set_iterator") (n := "__iter__") (by rw [typeLookup_type, builtinLookup_eq_fast]; kernel_rfl) (by decide +kernel) (by decide +kernel) (by decide +kernel)
    (by first | exact .inl (by decide +kernel) | exact .inr (by decide +kernel)) (by rw [isSubtype_type]; kernel_rfl)
theorem entry_si_iter : entryFor table "set_iterator.__iter__" = some Builtin.«dict_keyiterator.__iter__» :=
  entryFor_alias (id' := "dict_keyiterator.__iter__") (by rw [fastTable_eq_tree]; kernel_rfl) rfl (by decide +kernel) (by rw [fastTable_eq_tree]; kernel_rfl)
theorem args_si_iter (a : Value) : argsOk "set_iterator.__iter__" ⟨[a], []⟩ := by unfold argsOk; kernel_rfl
theorem entry_si_next : entryFor table "set_iterator.__next__" = some Builtin.«set_iterator.__next__» := entryFor_of_tree (by kernel_rfl)
theorem args_si_next (a : Value) : argsOk "set_iterator.__next__" ⟨[a], []⟩ := by unfold argsOk; kernel_rfl

theorem go_perm {α : Type} (next : Nat → Nat) : ∀ (fuel k : Nat) (left : List α) (out : Array α), left.length = fuel → (pickOrder.go next fuel k left out).toList.Perm (out.toList ++ left)
  | 0, _, left, out, h => by
    have : left = [] := List.length_eq_zero_iff.mp h
    subst this
    show (out.toList).Perm _
    rw [List.append_nil]
  | fuel + 1, k, left, out, h => by
    have hlt : next k % left.length < left.length := Nat.mod_lt _ (by omega)
    have e : left[next k % left.length]? = some left[next k % left.length] := List.getElem?_eq_getElem hlt
    have er : pickOrder.go next (fuel + 1) k left out = pickOrder.go next fuel (k + 1) (left.eraseIdx (next k % left.length)) (out.push left[next k % left.length]) := by
      show (match left[next k % left.length]? with | some x => _ | none => _) = _
      rw [e]
    rw [er]
    refine (go_perm next fuel (k + 1) _ _ (by rw [List.length_eraseIdx_of_lt hlt]; omega)).trans ?_
    rw [Array.toList_push, List.append_assoc]
    refine List.Perm.append_left _ ?_
    rw [List.eraseIdx_eq_take_drop_succ]
    have e2 : left = left.take (next k % left.length) ++ left[next k % left.length] :: left.drop (next k % left.length + 1) := by
      rw [← List.drop_eq_getElem_cons hlt, List.take_append_drop]
    have e3 := (List.perm_middle (a := left[next k % left.length]) (l₁ := left.take (next k % left.length)) (l₂ := left.drop (next k % left.length + 1))).symm
    exact (List.Perm.trans e3 (List.Perm.of_eq e2.symm))
theorem pick_perm {α : Type} (next : Nat → Nat) (xs : Array α) : (pickOrder next xs).toList.Perm xs.toList := by
  have := go_perm next xs.size 0 xs.toList #[] (by simp)
  exact this

noncomputable def slotAt (t : SetTable) : Nat → Nat
  | 0 => 0
  | i + 1 => t.place.getD i 0 + 1
/-- the walk over the table meets the elements in their order -/
noncomputable def walksOk (t : SetTable) (n : Nat) : Bool := t.plain && t.place.size == n && (List.range (n + 1)).all fun i => SetTable.below t.place (slotAt t i) == i
noncomputable def walked (w : World) (a : Addr) (ep : Nat) (es : Array (Int × Value)) : Array (Int × Value) := if byText w then pickOrder (w.params.setOrder a ep) es else es
theorem walked_perm (w : World) (a : Addr) (ep : Nat) (es : Array (Int × Value)) : (walked w a ep es).toList.Perm es.toList := by
  unfold walked
  split
  · exact pick_perm _ _
  · exact .rfl
theorem walked_size (w : World) (a : Addr) (ep : Nat) (es : Array (Int × Value)) : (walked w a ep es).size = es.size := by
  rw [← Array.length_toList, (walked_perm w a ep es).length_eq, Array.length_toList]
section
variable {prog : Program} {w : World} {A : Around} {E : Value → Shared → Prop} {s : Shared}
theorem byText_step {Q : Bool → Shared → Prop} (h : Q (byText w) s) : wpAny (model prog w) A setsByText Q E s := by
  unfold setsByText
  exact wpAny_bind (wpAny_askSetting (wpAny_pure h))

noncomputable def itS (slot i : Nat) (a : Addr) (n ep : Nat) : Obj := { cls := .type "set_iterator", data := .fields #[rawInt slot, rawInt i, .ref a, rawInt n, rawInt ep] }
noncomputable def slotW (w : World) (t : SetTable) (i : Nat) : Nat := if byText w then 0 else slotAt t i

theorem next_item {a : Addr} {o : Obj} {es : Array (Int × Value)} {ep : Nat} {t : SetTable} {i : Nat} {Q : Option (Value × Nat) → Shared → Prop} (ho : s.heap.get? a = some o) (hd : o.data = .set es ep t) (hf : t.fits es.size = true)
    (hl : t.led = !byText w) (hw : walksOk t es.size = true) (hi : i < es.size) (h : Q (some (((walked w a ep es).getD i (0, .none)).2, slotW w t (i + 1))) s) :
    wpAny (model prog w) A (setNext a (slotW w t i) i ep) Q E s := by
  unfold setNext
  refine wpAny_bind (wpAny_setState_of ho hd hf ?_)
  dsimp only
  refine wpAny_bind (byText_step ?_)
  unfold walksOk at hw
  simp only [Bool.and_eq_true, beq_iff_eq, List.all_eq_true, List.mem_range] at hw
  obtain ⟨⟨hp, hps⟩, hb⟩ := hw
  have hsz := walked_size w a ep es
  cases hbt : byText w
  · rw [if_neg (by simp)]
    rw [hbt] at hl
    rw [if_neg ?hdr]
    case hdr => show ¬((!t.plain && _) = true); rw [hp]; simp
    refine wpAny_bind (?_ : wpAny _ _ (ite _ _ (pure ())) _ _ _)
    rw [if_neg ?hled]
    case hled => show ¬((!t.led && _) = true); rw [hl]; simp
    refine wpAny_pure ?_
    refine wpAny_pure ?_
    have e : slotW w t i = slotAt t i := by unfold slotW; rw [hbt]; rfl
    have e2 : slotW w t (i + 1) = t.place.getD i 0 + 1 := by unfold slotW; rw [hbt]; rfl
    rw [e, hb i (by omega)]
    have e3 : es[i]? = some es[i] := Array.getElem?_eq_getElem hi
    have e4 : t.place[i]? = some (t.place.getD i 0) := by
      have : i < t.place.size := by omega
      simp [Array.getD, this]
    have e5 : (walked w a ep es).getD i (0, .none) = es[i] := by unfold walked; rw [hbt]; simp [Array.getD, hi]
    rw [e3, e4]
    rw [e5, e2] at h
    exact h
  · rw [if_pos rfl]
    rw [if_neg (by simp)]
    unfold setWalk
    refine wpAny_bind (wpAny_bind (wpAny_setState_of ho hd hf ?_))
    dsimp only
    refine wpAny_bind (byText_step ?_)
    rw [hbt, if_pos rfl]
    refine wpAny_bind (wpAny_askSetting (wpAny_pure ?_))
    refine wpAny_pure ?_
    have e5 : (pickOrder (w.params.setOrder a ep) es)[i]? = some ((walked w a ep es).getD i (0, .none)) := by
      have : i < (walked w a ep es).size := by omega
      unfold walked at this ⊢
      rw [hbt, if_pos rfl] at this ⊢
      simp [Array.getD, this]
    have e6 : slotW w t i = slotW w t (i + 1) := by unfold slotW; rw [hbt]; rfl
    show Q (Option.map (fun e => (e.2, slotW w t i)) (pickOrder (w.params.setOrder a ep) es)[i]?) s
    rw [e5, e6]
    exact h
theorem next_end {a : Addr} {o : Obj} {es : Array (Int × Value)} {ep : Nat} {t : SetTable} {Q : Option (Value × Nat) → Shared → Prop} (ho : s.heap.get? a = some o) (hd : o.data = .set es ep t) (hf : t.fits es.size = true)
    (hl : t.led = !byText w) (hw : walksOk t es.size = true) (h : Q none s) :
    wpAny (model prog w) A (setNext a (slotW w t es.size) es.size ep) Q E s := by
  unfold setNext
  refine wpAny_bind (wpAny_setState_of ho hd hf ?_)
  dsimp only
  refine wpAny_bind (byText_step ?_)
  unfold walksOk at hw
  simp only [Bool.and_eq_true, beq_iff_eq, List.all_eq_true, List.mem_range] at hw
  obtain ⟨⟨hp, hps⟩, hb⟩ := hw
  have hsz := walked_size w a ep es
  cases hbt : byText w
  · rw [if_neg (by simp)]
    rw [hbt] at hl
    rw [if_neg ?hdr]
    case hdr => show ¬((!t.plain && _) = true); rw [hp]; simp
    refine wpAny_bind (?_ : wpAny _ _ (ite _ _ (pure ())) _ _ _)
    rw [if_neg ?hled]
    case hled => show ¬((!t.led && _) = true); rw [hl]; simp
    refine wpAny_pure ?_
    refine wpAny_pure ?_
    have e : slotW w t es.size = slotAt t es.size := by unfold slotW; rw [hbt]; rfl
    rw [e, hb es.size (by omega)]
    have e3 : es[es.size]? = none := by simp
    rw [e3]
    exact h
  · rw [if_pos rfl]
    rw [if_neg (by simp)]
    unfold setWalk
    refine wpAny_bind (wpAny_bind (wpAny_setState_of ho hd hf ?_))
    dsimp only
    refine wpAny_bind (byText_step ?_)
    rw [hbt, if_pos rfl]
    refine wpAny_bind (wpAny_askSetting (wpAny_pure ?_))
    refine wpAny_pure ?_
    have e5 : (pickOrder (w.params.setOrder a ep) es)[es.size]? = none := by
      have : (walked w a ep es).size ≤ es.size := by omega
      unfold walked at this
      rw [hbt, if_pos rfl] at this
      simpa using this
    show Q (Option.map (fun e => (e.2, slotW w t es.size)) (pickOrder (w.params.setOrder a ep) es)[es.size]?) s
    rw [e5]
    exact h
end
end Mine
end
section
theorem Mine.fresh_CSetD : True := by
  w_top off
  k_with_none
  trivial
open PySem PySem.W PyProof.Rows PySem.Calls PySem.Spec
set_option maxRecDepth 100000
namespace Mine
structure SetSt (w : World) (o : Obj) (es : Array (Int × Value)) (ep : Nat) (t : SetTable) : Prop where
  exact' : o.ExactSet
  data : o.data = .set es ep t
  fits : t.fits es.size = true
  led : t.led = !byText w
  walks : walksOk t es.size = true
section
variable {prog : Program} {w : World} {A : Around} {E : Value → Shared → Prop} {s : Shared}
theorem SetSt.plain {o : Obj} {es : Array (Int × Value)} {ep : Nat} {t : SetTable} (x : SetSt w o es ep t) : t.plain = true := by
  have := x.walks
  unfold walksOk at this
  simp only [Bool.and_eq_true] at this
  exact this.1.1
theorem iter_set {a : Addr} {o : Obj} {es : Array (Int × Value)} {ep : Nat} {t : SetTable} {Q : Value → Shared → Prop} (x : SetSt w o es ep t) (ho : s.heap.get? a = some o)
    (h : Q (.ref s.heap.objs.size) { s with heap := s.heap.push (itS 0 0 a es.size ep) }) : wpAny (model prog w) A (pyIter (.ref a)) Q E s := by
  have hT : s.TypeIs (.ref a) "set" := ⟨o, ho, x.exact'.1⟩
  refine wpAny_pyIter_slot hT F.slot_set_iter (wpAny_call_entry F.slot_set_iter hT entry_set_iter ?_ (F.args_set_iter_1 _))
  unfold Builtin.«frozenset.__iter__» Builtin.Frozenset.slot0 slotArgs
  simp only [List.isEmpty_nil, Bool.not_true, Bool.false_eq_true, ↓reduceIte, bind_assoc, List.length_nil, bne_self_eq_false]
  unfold Builtin.Frozenset.addrOf Builtin.Frozenset.sizeOf
  refine wpAny_bind (wpAny_pure ?_)
  dsimp only
  refine wpAny_bind (wpAny_pure ?_)
  refine wpAny_bind (wpAny_bind (wpAny_setEntries_of ho x.data x.fits (wpAny_pure ?_)))
  unfold setDrawn
  refine wpAny_bind (wpAny_bind (wpAny_setState_of ho x.data x.fits ?_))
  dsimp only
  refine wpAny_bind (byText_step (wpAny_pure ?_))
  rw [if_neg ?hdr]
  case hdr => show ¬((!byText w && (!t.plain && _)) = true); rw [x.plain]; simp
  refine wpAny_bind (wpAny_pure ?_)
  refine wpAny_bind (wpAny_setEpoch_of ho x.data x.fits ?_)
  refine wpAny_bind (wpAny_newObj_type (wpAny_pure ?_) (by size_fits))
  exact ⟨_, rfl, "set_iterator", _, ⟨_, Heap.get?_push_size _ rfl, rfl⟩, slot_si_next.lookup, h⟩

noncomputable def SiSt (w : World) (I a : Addr) (o : Obj) (es : Array (Int × Value)) (ep : Nat) (t : SetTable) (i : Nat) (h : Heap) : Prop :=
  h.get? I = some (itS (slotW w t i) i a es.size ep) ∧ h.get? a = some o
theorem set_walks {I a : Addr} {o : Obj} {es : Array (Int × Value)} {ep : Nat} {t : SetTable} (hh : A.handled = none) (x : SetSt w o es ep t) (hne : a ≠ I) :
    Walks prog w A I [I, a] [I] es.size (fun i v => (walked w a ep es)[i]?.map (·.2) = some v) (SiSt w I a o es ep t) where
  sub := fun b hb => by rw [List.mem_singleton.mp hb]; exact .head _
  frame := fun _ _ _ st hk => ⟨hk I (.head _) _ st.1, hk a (.tail _ (.head _)) _ st.2⟩
  item := fun i s Q E hi st hQ => by
    have hT : s.TypeIs (.ref I) "set_iterator" := ⟨_, st.1, rfl⟩
    unfold pyNext
    refine wpAny_bind (wpAny_attempt (wpAny_callSpecial?_slot (name := Str.ofString "__next__") hT slot_si_next
      (wpAny_call_entry slot_si_next hT entry_si_next ?_ (args_si_next _))))
    unfold Builtin.«set_iterator.__next__» slotArgs
    simp only [List.isEmpty_nil, Bool.not_true, Bool.false_eq_true, ↓reduceIte, List.length_nil, bne_self_eq_false, pure_bind]
    refine wpAny_bind (wpAny_fieldsOf st.1 rfl ?_)
    dsimp only [itS, rawInt]
    refine wpAny_bind (wpAny_setEntries_of st.2 x.data x.fits ?_)
    rw [if_neg (by simp)]
    dsimp only [Int.toNat_natCast]
    refine wpAny_bind (next_item st.2 x.data x.fits x.led x.walks hi ?_)
    dsimp only
    refine wpAny_bind (wpAny_setField_rec st.1 (by simp) fun h₁ g₁ k₁ => ?_)
    refine wpAny_bind (wpAny_setField_rec g₁ (by simp) fun h₂ g₂ k₂ => ?_)
    have hv : (walked w a ep es)[i]?.map (·.2) = some ((walked w a ep es).getD i (0, .none)).2 := by
      have : i < (walked w a ep es).size := by rw [walked_size]; exact hi
      simp [Array.getD, this]
    refine wpAny_pure ⟨_, rfl, wpAny_pure (hQ _ h₂ _ hv ⟨?_, ?_⟩ fun b o hb e => ?_)⟩
    · rw [g₂]; simp [itS, rawInt]
    · rw [k₂.2 a hne, k₁.2 a hne]; exact st.2
    · have hb' : b ≠ I := fun q => hb (List.mem_singleton.mpr q)
      rw [k₂.2 b hb', k₁.2 b hb']; exact e
  done := fun s Q E st hQ => by
    have hT : s.TypeIs (.ref I) "set_iterator" := ⟨_, st.1, rfl⟩
    unfold pyNext
    refine wpAny_bind (wpAny_attempt (wpAny_callSpecial?_slot (name := Str.ofString "__next__") hT slot_si_next
      (wpAny_call_entry slot_si_next hT entry_si_next ?_ (args_si_next _))))
    unfold Builtin.«set_iterator.__next__» slotArgs
    simp only [List.isEmpty_nil, Bool.not_true, Bool.false_eq_true, ↓reduceIte, List.length_nil, bne_self_eq_false, pure_bind]
    refine wpAny_bind (wpAny_fieldsOf st.1 rfl ?_)
    dsimp only [itS, rawInt]
    refine wpAny_bind (wpAny_setEntries_of st.2 x.data x.fits ?_)
    rw [if_neg (by simp)]
    dsimp only [Int.toNat_natCast]
    refine wpAny_bind (next_end st.2 x.data x.fits x.led x.walks ?_)
    dsimp only
    refine wpAny_bind (wpAny_setField_rec st.1 (by simp) fun h₁ g₁ k₁ => ?_)
    show wpAny _ _ (newExc (.type "StopIteration") [] >>= _) _ _ _
    refine wpAny_bind ?_
    simp only [newExc, newTuple]
    refine wpAny_bind (wpAny_newObj_type ?_ (by size_fits))
    refine wpAny_bind (m := firstArgMember _ _) (wpAny_of_eq (a := Value.none) (by first | rfl | (simp only [firstArgMember]; rfl)) ?_)
    refine wpAny_newObj_type ?_ (by size_fits)
    simp only [raiseNew]
    refine wpAny_bind (wpAny_handled ?_)
    rw [show A.in1.handled = none from hh]
    refine wpAny_bind (wpAny_pure (wpAny_throw ?_))
    refine wpAny_bind (wpAny_isInstance (T := "StopIteration") (b := true) ⟨_, Heap.get?_push_size _ rfl, rfl⟩ isSubtype_stop ?_)
    refine wpAny_pure (hQ _ _ fun b o hb e => ?_)
    have hb' : b ≠ I := fun q => hb (List.mem_singleton.mpr q)
    exact Heap.get?_push_of_some _ (Heap.get?_push_of_some _ (by rw [k₁.2 b hb']; exact e))
  self := fun i s Q E st hQ => by
    have hT : s.TypeIs (.ref I) "set_iterator" := ⟨_, st.1, rfl⟩
    refine wpAny_pyIter_slot hT slot_si_iter (wpAny_call_entry slot_si_iter hT entry_si_iter ?_ (args_si_iter _))
    show wpAny _ _ (ret (.ref I)) _ _ s
    exact wpAny_pure ⟨_, rfl, "set_iterator", _, hT, slot_si_next.lookup, hQ⟩
end
end Mine
end
section
theorem Mine.fresh_CSetE : True := by
  w_top off
  k_with_none
  trivial
open PySem PySem.W PyProof.Rows PySem.Calls PySem.Spec
set_option maxRecDepth 100000
namespace Mine
section
variable {prog : Program} {w : World} {A : Around} {E : Value → Shared → Prop} {s : Shared}
theorem collect_set {a : Addr} {o : Obj} {es : Array (Int × Value)} {ep : Nat} {t : SetTable} {Q : List Value → Shared → Prop} (hh : A.handled = none) (x : SetSt w o es ep t) (ho : s.heap.get? a = some o) (hn : es.size ≤ 1000)
    (hQ : ∀ h' tk, (∀ b o, s.heap.get? b = some o → h'.get? b = some o) → s.heap.objs.size ≤ h'.objs.size → Q ((walked w a ep es).map (·.2)).toList { s with heap := h', toks := tk }) : wpAny (model prog w) A (collect (.ref a)) Q E s := by
  have ha : a < s.heap.objs.size := Heap.lt_size ho
  unfold collect
  refine wpAny_bind (wpAny_runValue (codeAny_builtin F.entry_proto_collect ?_))
  rw [Around.under_plainId F.plain_proto_collect _]
  show wpAny _ A.in1 (newList [] >>= fun l => again (.builtin "list.__iadd__" ⟨[l, .ref a], []⟩)) _ _ s
  refine wpAny_bind (wpAny_newObj_type ?_)
  refine wpAny_pure ⟨plainId_quiet F.plain_list_iadd _, codeAny_builtin F.entry_list_iadd ?_⟩
  rw [Around.under_plainId F.plain_list_iadd _]
  generalize hH : s.heap.push { cls := .type "list", data := .seq ([] : List Value).toArray } = H
  have hSz : H.objs.size = s.heap.objs.size + 1 := by rw [← hH, Heap.size_push]
  have up : ∀ b o, s.heap.get? b = some o → H.get? b = some o := fun b o e => hH ▸ Heap.get?_push_of_some _ e
  have hS₁ : H.get? s.heap.objs.size = some { cls := .type "list", data := .seq ([] : List Value).toArray } := hH ▸ Heap.get?_push_size _ rfl
  have ho₁ : H.get? a = some o := up _ _ ho
  have hT : Shared.TypeIs { s with heap := H } (.ref a) "set" := ⟨o, ho₁, x.exact'.1⟩
  have h1 : Builtin.List.listSameRef (.ref s.heap.objs.size) (.ref a) = false := by simp [Builtin.List.listSameRef, Nat.ne_of_gt ha]
  show wpAny _ A.in1 (Builtin.List.listExtendWith (.ref s.heap.objs.size) (.ref a) (.ref s.heap.objs.size)) _ _ _
  unfold Builtin.List.listExtendWith
  refine wpAny_bind (wpAny_typeOf hT ?_)
  rw [if_neg (by rw [h1]; decide)]
  refine wpAny_bind (iter_set x ho₁ ?_)
  dsimp only
  rw [hSz]
  generalize hH2 : H.push (itS 0 0 a es.size ep) = H2
  have up2 : ∀ b o, H.get? b = some o → H2.get? b = some o := fun b o e => hH2 ▸ Heap.get?_push_of_some _ e
  have hI : H2.get? (s.heap.objs.size + 1) = some (itS 0 0 a es.size ep) := by rw [← hSz, ← hH2]; exact Heap.get?_push_size _ rfl
  have hT2 : Shared.TypeIs { s with heap := H2 } (.ref a) "set" := ⟨o, up2 _ _ ho₁, x.exact'.1⟩
  refine wpAny_bind (wpAny_holding ?_)
  unfold Builtin.List.listLengthHint
  refine wpAny_bind (wpAny_specialOf hT2 F.slot_set_len.lookup ?_)
  (generalize hid : ("set.__len__" : String) = id0; (fail_if_success (clear hid id0)); wp_delta; rw [show splitId id0 = some ("set", "__len__") from by subst hid; decide +kernel]; subst hid)
  refine wpAny_bind (wpAny_isInstance (b := true) hT2 sub_set_self ?_)
  rw [if_neg (by decide)]
  dsimp only
  rw [if_pos (by decide +kernel)]
  refine wpAny_bind (wpAny_typeOf hT2 ?_)
  refine wpAny_pure ?_
  rw [if_pos (by decide)]
  refine wpAny_bind (wpAny_rule ?_)
  refine wpAny_bind ?_
  show wpAny _ A.in1 (updateSeq s.heap.objs.size (·.push .none) >>= fun _ => updateSeq s.heap.objs.size (·.pop)) _ _ _
  refine wpAny_bind (wpAny_updateSeq (up2 _ _ hS₁) rfl ?_)
  have hS₂ := Heap.get?_update_self (Obj.mapSeq (·.push Value.none)) (up2 _ _ hS₁) rfl
  refine wpAny_updateSeq hS₂ rfl ?_
  have hS₃ := Heap.get?_update_self (Obj.mapSeq (·.pop)) hS₂ rfl
  have oth : ∀ b o, b ≠ s.heap.objs.size → H2.get? b = some o → ((H2.update s.heap.objs.size (Obj.mapSeq (·.push Value.none))).update s.heap.objs.size (Obj.mapSeq (·.pop))).get? b = some o :=
    fun b o hb e => (Heap.get?_update_other _ _ (Ne.symm hb)).trans ((Heap.get?_update_other _ _ (Ne.symm hb)).trans e)
  have hIS : s.heap.objs.size + 1 ≠ s.heap.objs.size := Nat.ne_of_gt (Nat.lt_succ_self _)
  have haI : a ≠ s.heap.objs.size + 1 := Nat.ne_of_lt (Nat.lt_succ_of_lt ha)
  have W := (set_walks (prog := prog) (A := A.in1.in1) (I := s.heap.objs.size + 1) (a := a) (by simp [hh]) x haI).toS
  have hSf : s.heap.objs.size ∉ [s.heap.objs.size + 1, a] := by
    simp only [List.mem_cons, List.not_mem_nil, or_false, not_or]
    exact ⟨Ne.symm hIS, Nat.ne_of_gt ha⟩
  have hs0 : slotW w t 0 = 0 := by unfold slotW; cases byText w <;> rfl
  refine wpAny_pure ⟨plainId_quiet F.plain_extend_loop _, codeAny_extend_loopS W.of_in1 (by rw [sizeLine_eq]; omega) _ hSf _ es.size 0 _ _ _ rfl (Nat.zero_le _)
    ⟨by rw [hs0]; exact oth _ _ hIS hI, oth _ _ (Nat.ne_of_lt ha) (up2 _ _ ho₁)⟩ hS₃ (ItemsOf.nil _) fun s' acc' c' hm hS' hacc => ?_⟩
  show wpAny _ A (load s.heap.objs.size >>= _) _ _ s'
  refine wpAny_bind (wpAny_load hS' ?_)
  refine wpAny_pure ?_
  have eacc : acc' = (walked w a ep es).map (·.2) := by
    refine Array.ext (by rw [hacc.1, Array.size_map, walked_size]) fun i h₁ h₂ => ?_
    have := hacc.2 i _ (Array.getElem?_eq_getElem h₁)
    rw [Array.size_map] at h₂
    rw [Array.getElem?_eq_getElem h₂] at this
    simpa using this.symm
  obtain ⟨h', g', d', tk', os'⟩ := s'
  have eg : g' = s.gens := hm.gens
  have ed : d' = s.drawn := hm.drawn
  have eo : os' = s.os := hm.os
  subst eg; subst ed; subst eo
  show Q acc'.toList _
  rw [eacc]
  refine hQ h' tk' (fun b o e => ?_) (Nat.le_of_lt (Heap.lt_size hS'))
  have hb := Heap.lt_size e
  refine hm.heap b o (by simp only [List.mem_cons, List.not_mem_nil, or_false, not_or]; exact ⟨Nat.ne_of_lt hb, Nat.ne_of_lt (Nat.lt_succ_of_lt hb)⟩) (oth b o (Nat.ne_of_lt hb) (up2 _ _ (up _ _ e)))
end
end Mine
end
section
theorem Mine.fresh_CSetF : True := by
  w_top off
  k_with_none
  trivial
open PySem PySem.W PyProof.Rows PySem.Calls PySem.Spec
set_option maxRecDepth 100000
namespace Mine
noncomputable def setGood (led : Bool) (ns : List Int) : Bool := walksOk (setOf led ns).2 (setOf led ns).1.size && (setOf led ns).2.led == led
theorem intsAre_map : ∀ l : List (Int × Value), (∀ e ∈ l, ∃ tk, e.2 = .int e.1 tk) → IntsAre (l.map (·.2)) (l.map (·.1))
  | [], _ => .nil
  | e :: l, h => by
    obtain ⟨tk, et⟩ := h e (.head _)
    rw [List.map_cons, List.map_cons, et]
    exact .cons _ _ (intsAre_map l fun x hx => h x (.tail _ hx))
section
variable {prog : Program} {w : World} {A : Around} {E : Value → Shared → Prop} {s : Shared} {h₀ : Heap} {L : Addr} {m : Str → Option Value} {news : List (Addr × Obj)}
theorem set_K {dl : Addr} {vs : List Value} {c : Nat} {ns : List Int} {Q : Value → Shared → Prop} (F : Fr h₀ L s.heap m) (N : News h₀ L s.heap news) (hh : A.handled = none)
    (hm : (dl, W.listOf vs.toArray c) ∈ news) (hi : IntsAre vs ns) (hb : ns.length < 900) (hr : ∀ x ∈ ns, 0 ≤ x ∧ x < 64) (hok : ∀ led, setGood led ns = true)
    (h : ∀ D h' tk o es ep, Fr h₀ L h' m → News h₀ L h' ((D, o) :: news) → (∀ p ∈ news, p.1 < D) → SetSt w o es ep (setOf (!byText w) ns).2 → Ent es (setOf (!byText w) ns).1 → es.size ≤ ns.length → Q (.ref D) { s with heap := h', toks := tk }) :
    wpAny (model prog w) A (call (.type "set") [.ref dl]) Q E s := by
  refine call_set hh (News.isList N hm) (by simpa using hi) hb hr fun h' tk hS hk => ?_
  obtain ⟨o, es, ep, ho, hex, hd, he, hbd, hsz, hf⟩ := hS
  have hg := hok (!byText w)
  unfold setGood at hg
  simp only [Bool.and_eq_true, beq_iff_eq] at hg
  have keep : ∀ b o, s.heap.get? b = some o → h'.get? b = some o := fun b o e => hk b o (Heap.lt_size e) e
  exact h s.heap.objs.size h' tk o es ep (F.kept keep) (N.kept_cons F keep (Nat.le_refl _) ho) (fun p hp => Heap.lt_size (N p hp).1) ⟨hex, hd, hf, hg.2, by rw [he.size]; exact hg.1⟩ he hsz
theorem sorted_set_K {D : Addr} {o : Obj} {es : Array (Int × Value)} {ep : Nat} {t : SetTable} {hs : Array Int} {Q : Value → Shared → Prop} (F : Fr h₀ L s.heap m) (N : News h₀ L s.heap news) (hh : A.handled = none)
    (hm : (D, o) ∈ news) (x : SetSt w o es ep t) (he : Ent es hs) (hz : es.size < 64)
    (h : ∀ D' vs' ns' c h' tk, Fr h₀ L h' m → News h₀ L h' ((D', W.listOf vs'.toArray c) :: news) → (∀ p ∈ news, p.1 < D') → IntsAre vs' ns' → ns'.Perm hs.toList → ns'.Pairwise (· ≤ ·) → Q (.ref D') { s with heap := h', toks := tk }) :
    wpAny (model prog w) A (call (.builtin "sorted") [.ref D]) Q E s := by
  refine Calls.call_function_entry kind_sorted plain_sorted entry_sorted (args_sorted1 _) ?_
  unfold Builtin.«sorted»
  refine wpAny_bind (m := checkCount "sorted" 1 1 _) (wpAny_pure ?_)
  refine wpAny_bind (collect_set (by simp [hh]) x (N _ hm).1 (by omega) fun h' tk keep hle => ?_)
  have hp := walked_perm w D ep es
  have hI : IntsAre ((walked w D ep es).map (·.2)).toList ((walked w D ep es).toList.map (·.1)) := by
    rw [Array.toList_map]
    exact intsAre_map _ fun e hx => he.allI e (hp.mem_iff.mp hx)
  have hlen : ((walked w D ep es).map (·.2)).toList.length = es.size := by simp [walked_size]
  have hperm : ((walked w D ep es).toList.map (·.1)).Perm hs.toList := by
    rw [← he.fst, Array.toList_map]
    exact hp.map _
  generalize ((walked w D ep es).map (·.2)).toList = vs at hI hlen ⊢
  refine wpAny_bind (wpAny_newList ?_ (by rw [hlen, sizeLine_eq]; omega))
  have hoL : (h'.push (seqObj "list" vs.toArray 0)).get? h'.objs.size = some (seqObj "list" vs.toArray 0) := Heap.get?_push_size _ rfl
  have hT : Shared.TypeIs { s with heap := h'.push (seqObj "list" vs.toArray 0), toks := tk } (.ref h'.objs.size) "list" := ⟨_, hoL, rfl⟩
  refine wpAny_bind (wpAny_holding (wpAny_call_entry slot_list_sort hT entry_list_sort (list_sort_tree (s := { s with heap := h'.push (seqObj "list" vs.toArray 0), toks := tk }) hoL hI (by omega) fun out ns' a1 a2 a3 => ⟨_, rfl, ?_⟩) (args_list_sort _)))
  refine wpAny_pure ⟨_, rfl, ?_⟩
  have keep2 : ∀ b o, s.heap.get? b = some o → (sortedHeap (h'.push (seqObj "list" vs.toArray 0)) h'.objs.size vs out).get? b = some o := fun b o e => by
    have e' := keep b o e
    have hlt := Heap.lt_size e'
    rw [sortedHeap_old (Nat.ne_of_lt hlt) (by rw [Heap.size_push]; exact Nat.lt_succ_of_lt hlt)]
    exact Heap.get?_push_of_some _ e'
  obtain ⟨c, hc⟩ := sortedHeap_at (out := out) hoL
  exact h h'.objs.size out.toList ns' c _ _ (F.kept keep2) (N.kept_cons F keep2 hle (by simpa using hc)) (fun p hp => Nat.lt_of_lt_of_le (Heap.lt_size (N p hp).1) hle) a1 (a2.trans hperm) a3
end
end Mine
end
section
theorem Mine.fresh_CRwA : True := by
  w_top off
  k_with_none
  trivial
open PySem PySem.W PyProof.Rows PySem.Calls PySem.Spec
set_option maxRecDepth 100000
namespace Mine
section
variable (elt it1 it2 : Expr) (t1 t2 : Expr) (scope : Scope) (pos : Pos) (it acc : Value) (env : Env)
theorem turn_in : compTurn (.ListComp elt [⟨t1, it1, [], 0⟩, ⟨t2, it2, [], 0⟩] scope pos) 1 it acc env = (standAt it2.pos >>= fun _ => pyNext it >>= fun r => match r with
      | none => pure (.done .next)
      | some v => letOwnedTupleGo t2 it v >>= fun _ => assign t2 env v >>= fun _ =>
        (eval elt env >>= fun x => call (.builtin "list.append") [acc, x] >>= fun _ => pure ()) >>= fun _ =>
          again (.compLoop (.ListComp elt [⟨t1, it1, [], 0⟩, ⟨t2, it2, [], 0⟩] scope pos) 1 it acc env)) := by rfl
theorem turn_out : compTurn (.ListComp elt [⟨t1, it1, [], 0⟩, ⟨t2, it2, [], 0⟩] scope pos) 0 it acc env = (standAt it1.pos >>= fun _ => pyNext it >>= fun r => match r with
      | none => pure (.done .next)
      | some v => letOwnedTupleGo t1 it v >>= fun _ => assign t1 env v >>= fun _ =>
        eval it2 env >>= fun x => standAt it2.pos >>= fun _ => foldedSetIterable it2 env x >>= fun x => holding [x] (pyIter x) >>= fun i =>
          runOwn (.compStart (.ListComp elt [⟨t1, it1, [], 0⟩, ⟨t2, it2, [], 0⟩] scope pos) 1 i acc env) env >>= fun _ =>
          again (.compLoop (.ListComp elt [⟨t1, it1, [], 0⟩, ⟨t2, it2, [], 0⟩] scope pos) 0 it acc env)) := by rfl
end
section
variable {prog : Program} {w : World} {A : Around} {E : Value → Shared → Prop} {R : Result → Shared → Prop} {s : Shared}
theorem start_in {elt it1 it2 t1 t2 : Expr} {scope : Scope} {pos : Pos} {it acc : Value} {env : Env}
    (h0 : codeAny (model prog w) A (.compLoop (.ListComp elt [⟨t1, it1, [], 0⟩, ⟨t2, it2, [], 0⟩] scope pos) 1 it acc env) R s)
    (h : wpAny (model prog w) A (pyIter it) (fun it' s' => codeAny (model prog w) A (.compLoop (.ListComp elt [⟨t1, it1, [], 0⟩, ⟨t2, it2, [], 0⟩] scope pos) 1 it' acc env) R s')
      (notedBy (model prog w) A env fun x s' => R (.error x) s') s) :
    codeAny (model prog w) A (.compStart (.ListComp elt [⟨t1, it1, [], 0⟩, ⟨t2, it2, [], 0⟩] scope pos) 1 it acc env) R s := by
  refine codeAny_of_tree ?_
  show wpAny _ _ ((compStart (.ListComp elt [⟨t1, it1, [], 0⟩, ⟨t2, it2, [], 0⟩] scope pos) 1 it acc env).onRaise (fun x => do noteFrame x env; standAt theWindowsPlace)) _ _ s
  refine wpAny_notedAt ?_
  unfold compStart
  show wpAny _ _ (ask >>= _) _ _ s
  refine wpAny_bind (wpAny_askSetting (wpAny_ite ?_))
  split
  · first
      | exact wpAny_bind (wpAny_pure (wpAny_pure (And.intro rfl h0)))
      | exact wpAny_pure (And.intro rfl h0)
  · refine wpAny_bind (wpAny_rule ?_)
    show wpAny _ _ (standAt it2.pos >>= _) _ _ s
    exact wpAny_bind (wpAny_standAt (wpAny_bind (wpAny_mono h (fun it' s' h' => wpAny_pure (And.intro rfl h')) fun _ _ x => x)))

noncomputable abbrev xt (r : Str) (c : Nat) : Str := r ++ (⟨#[c]⟩ : Str)
theorem loop_in {it1 it2 t1 : Expr} {x1 x2 : Str} {p2 q1 q2 bp pos : Pos} {scope : Scope} {cl : List (Str × Addr)} {env : Env} {I2 D C : Addr} {y r : Str} {tr : Tok} {St2 : Nat → Heap → Prop} {ys : List Value} {m : Str → Option Value}
    (W : Walks prog w A I2 [I2] [I2] y.cps.size (SignAt y) St2) (hkind : scope.kind = .function) (hx1 : scope.names.lookup x1 = some .local) (hx2 : scope.names.lookup x2 = some .local) (hne : (x1 == x2) = false)
    (hd1 : (x1 == ("__debug__" : Str)) = false) (hd2 : (x2 == ("__debug__" : Str)) = false)
    (hCD : C ≠ D) (hCI : C ≠ I2) (hDI : D ≠ I2) (hst : St2 0 s.heap) (hn : s.heap.Ns C m) (hm : m x1 = some (.str r tr)) (hD : s.heap.get? D = some (LCg.lst ys)) (hr : r.length ≤ 100) (hys : ys.length ≤ 100) (hy : y.cps.size ≤ 100)
    (hR : ∀ h' tk us m', h'.Ns C m' → h'.get? D = some (LCg.lst (ys ++ us)) → StrsAre us (y.cps.toList.map (xt r)) → (∀ b o, b ≠ C → b ≠ D → b ≠ I2 → s.heap.get? b = some o → h'.get? b = some o) → R (.ok .next) { s with heap := h', toks := tk }) :
    codeAny (model prog w) A (.compLoop (.ListComp (.BinOp (.Name x1 q1) .Add (.Name x2 q2) bp) [⟨t1, it1, [], 0⟩, ⟨.Name x2 p2, it2, [], 0⟩] scope pos) 1 (.ref I2) (.ref D) (compEnvC scope cl C env)) R s := by
  refine codeAny_loop rfl (fun k s' => ∃ h' tk j us m', s' = { s with heap := h', toks := tk } ∧ j ≤ y.cps.size ∧ k = y.cps.size + 1 - j ∧ St2 j h' ∧ h'.Ns C m' ∧ m' x1 = some (.str r tr) ∧ h'.get? D = some (LCg.lst (ys ++ us)) ∧
      StrsAre us ((y.cps.toList.take j).map (xt r)) ∧ (∀ b o, b ≠ C → b ≠ D → b ≠ I2 → s.heap.get? b = some o → h'.get? b = some o)) (fun k s' hI => ?_) (y.cps.size + 1)
    ⟨s.heap, s.toks, 0, [], m, rfl, Nat.zero_le _, rfl, hst, hn, hm, by rw [List.append_nil]; exact hD, .nil, fun _ _ _ _ _ e => e⟩
  obtain ⟨h', tk, j, us, m', rfl, hj, rfl, hst', hn', hm', hD', hus, hk'⟩ := hI
  show wpAny _ A ((compTurn _ 1 (.ref I2) (.ref D) (compEnvC scope cl C env)).onRaise (fun x => do noteFrame x (compEnvC scope cl C env); theTreesLotGoes x)) _ _ _
  refine wpAny_noted ?_
  rw [turn_in]
  have hlu2 : us.length ≤ 100 := by
    have := StrsAre.length hus
    simp only [List.length_map, List.length_take, Array.length_toList] at this
    rw [this]
    exact Nat.le_trans (Nat.min_le_left _ _) (by omega)
  have hlu3 : (ys ++ us).length ≤ 200 := by rw [List.length_append]; omega
  by_cases hlt : j < y.cps.size
  · refine wpAny_bind (wpAny_standAt (wpAny_bind (W.item j _ _ _ hlt hst' fun v h₂ tk₂ hPv hst₂ hk₂ => ?_)))
    dsimp only
    refine wpAny_bind (wpAny_of_eq (a := ()) rfl ?_)
    obtain ⟨c, u, hc, rfl⟩ := hPv
    have hnot : ∀ b : Addr, b ≠ I2 → b ∉ [I2] := fun b hb hm => hb (List.mem_singleton.mp hm)
    refine wpAny_bind (wpAny_assign_Name (wpAny_storeName_local (lookup_relabel_local hx2) (hn'.at' fun o e => hk₂ _ o (hnot _ hCI) e) (fun h₃ hn₃ hs₃ => ?_) (by simp [compEnvC, relabel, hkind])))
    have hst₃ : St2 (j + 1) h₃ := W.frame _ _ _ hst₂ fun b hb o e => hs₃.extBut b o (fun q => hCI (by rw [List.mem_singleton.mp hb] at q; exact q.symm)) e
    have hD₃ : h₃.get? D = some (LCg.lst (ys ++ us)) := hs₃.extBut _ _ (Ne.symm hCD) (hk₂ _ _ (hnot _ hDI) hD')
    have hkf : (compEnvC scope cl C env).scope.kind = .function := by simp [compEnvC, relabel, hkind]
    refine wpAny_bind (wpAny_bind (wpAny_BinOp (wpAny_Name (wpAny_loadName_local (v := .str r tr) hkf (lookup_relabel_local hx1) hn₃ (by
      have : ¬ x1 = x2 := by simpa using hne
      simpa [this] using hm') (wpAny_Name (wpAny_loadName_local (v := .str ⟨#[c]⟩ u) hkf (lookup_relabel_local hx2) hn₃ (by simp) ?_) hd2)) hd1)))
    refine PyProof.Rows.add_str (fun t' tk' => ?_) (by rw [sizeLine_eq]; show r.length + 1 ≤ _; omega)
    refine wpAny_bind (append_at hD₃ (hsz := by rw [sizeLine_eq, List.size_toArray]; exact Nat.le_trans hlu3 (by decide)) fun h₅ hs₅ hD₅ => ?_)
    refine wpAny_pure (wpAny_pure ⟨rfl, y.cps.size + 1 - (j + 1), by omega, h₅, tk', j + 1, us ++ [.str (r ++ ⟨#[c]⟩) t'], (fun z => if z = x2 then some (.str ⟨#[c]⟩ u) else m' z), rfl, hlt, rfl, ?_, ?_, ?_, ?_, ?_, ?_⟩)
    · exact W.frame _ _ _ hst₃ fun b hb o e => hs₅.extBut b o (fun q => hDI (by rw [List.mem_singleton.mp hb] at q; exact q.symm)) e
    · exact hn₃.sameBut hs₅ hCD
    · have : ¬ x1 = x2 := by simpa using hne
      simpa [this] using hm'
    · rw [hD₅]
      have := LCg.lst_snoc (ys ++ us) (.str (r ++ ⟨#[c]⟩) t')
      rw [List.append_assoc] at this
      exact congrArg some this
    · rw [List.take_add_one]
      have hc' : y.cps.toList[j]? = some c := by rw [Array.getElem?_toList]; exact hc
      rw [hc', List.map_append]
      exact StrsAre.append' hus (.cons _ _ .nil)
    · intro b o h1 h2 h3 e
      exact hs₅.extBut _ _ h2 (hs₃.extBut _ _ h1 (hk₂ _ _ (hnot _ h3) (hk' b o h1 h2 h3 e)))
  · obtain rfl : j = y.cps.size := Nat.le_antisymm hj (Nat.not_lt.mp hlt)
    refine wpAny_bind (wpAny_standAt (wpAny_bind (W.done _ _ _ hst' fun h₂ tk₂ hk₂ => wpAny_pure ?_)))
    have hnot : ∀ b : Addr, b ≠ I2 → b ∉ [I2] := fun b hb hm => hb (List.mem_singleton.mp hm)
    refine hR h₂ tk₂ us m' (hn'.at' fun o e => hk₂ _ o (hnot _ hCI) e) (hk₂ _ _ (hnot _ hDI) hD') ?_ fun b o h1 h2 h3 e => hk₂ _ _ (hnot _ h3) (hk' b o h1 h2 h3 e)
    rw [← Array.length_toList, List.take_length] at hus
    exact hus
end
end Mine
end
section
theorem Mine.fresh_CRwB : True := by
  w_top off
  k_with_none
  trivial
open PySem PySem.W PyProof.Rows PySem.Calls PySem.Spec
set_option maxRecDepth 100000
namespace Mine
noncomputable def rowsOf (y : Str) (ss : List Str) : List Str := ss.flatMap fun r => y.cps.toList.map (xt r)
theorem rowsOf_append (y : Str) (a b : List Str) : rowsOf y (a ++ b) = rowsOf y a ++ rowsOf y b := by unfold rowsOf; rw [List.flatMap_append]
theorem strs_at {vs : List Value} {ss : List Str} (h : StrsAre vs ss) : ∀ (i : Nat) (v : Value), vs[i]? = some v → ∃ r t, ss[i]? = some r ∧ v = .str r t := by
  induction h with
  | nil => intro i v h; simp at h
  | cons x t _ ih =>
    intro i v h
    cases i with
    | zero => simp at h; exact ⟨x, t, rfl, h.symm⟩
    | succ i => exact ih i v (by simpa using h)
section
variable {prog : Program} {w : World} {A : Around} {E : Value → Shared → Prop} {R : Result → Shared → Prop} {s : Shared}
noncomputable abbrev rowsComp (x1 x2 : Str) (it1 : Expr) (y : Str) (k : Nat) (p1 p2 q1 q2 bp cp : Pos) (scope : Scope) (pos : Pos) : Expr :=
  .ListComp (.BinOp (.Name x1 q1) .Add (.Name x2 q2) bp) [⟨.Name x1 p1, it1, [], 0⟩, ⟨.Name x2 p2, .Constant (.str y) k cp, [], 0⟩] scope pos
theorem loop_out {it1 : Expr} {x1 x2 y : Str} {k : Nat} {p1 p2 q1 q2 bp cp pos : Pos} {scope : Scope} {cl : List (Str × Addr)} {env : Env} {I ax D C : Addr} {vs : List Value} {ss : List Str} {m : Str → Option Value}
    (hh : A.handled = none) (hkind : scope.kind = .function) (hx1 : scope.names.lookup x1 = some .local) (hx2 : scope.names.lookup x2 = some .local) (hne : (x1 == x2) = false)
    (hd1 : (x1 == ("__debug__" : Str)) = false) (hd2 : (x2 == ("__debug__" : Str)) = false)
    (hCD : C ≠ D) (hCI : C ≠ I) (hDI : D ≠ I) (haC : ax ≠ C) (haD : ax ≠ D) (haI : ax ≠ I)
    (hst : s.heap.IsListIter I ax 0) (hl : s.heap.IsList ax vs.toArray) (hn : s.heap.Ns C m) (hD : s.heap.get? D = some (LCg.lst [])) (hv : StrsAre vs ss) (hvl : ss.length ≤ 20) (hr : ∀ r ∈ ss, r.length ≤ 50) (hy : y.cps.size ≤ 3)
    (hR : ∀ h' tk us m', h'.Ns C m' → h'.get? D = some (LCg.lst us) → StrsAre us (rowsOf y ss) → (∀ b o, b ≠ C → b ≠ D → b ≠ I → s.heap.get? b = some o → h'.get? b = some o) → R (.ok .next) { s with heap := h', toks := tk }) :
    codeAny (model prog w) A (.compLoop (rowsComp x1 x2 it1 y k p1 p2 q1 q2 bp cp scope pos) 0 (.ref I) (.ref D) (compEnvC scope cl C env)) R s := by
  have hlen := StrsAre.length hv
  have W := Walks.list (prog := prog) (w := w) hh I ax haI vs.toArray
  have hdr : ∀ b : Addr, b ≠ I → b ∉ [I] := fun b hb hm => hb (List.mem_singleton.mp hm)
  have hzs : vs.toArray.size = ss.length := by rw [List.size_toArray, hlen]
  rw [hzs] at W
  refine codeAny_loop rfl (fun k s' => ∃ h' tk j us m', s' = { s with heap := h', toks := tk } ∧ j ≤ ss.length ∧ k = ss.length + 1 - j ∧ (h'.IsListIter I ax j ∧ h'.IsList ax vs.toArray) ∧ h'.Ns C m' ∧ h'.get? D = some (LCg.lst us) ∧
      StrsAre us (rowsOf y (ss.take j)) ∧ us.length ≤ 3 * j ∧ (∀ b o, b ≠ C → b ≠ D → b ≠ I → s.heap.get? b = some o → h'.get? b = some o)) (fun k s' hI => ?_) (ss.length + 1)
    ⟨s.heap, s.toks, 0, [], m, rfl, Nat.zero_le _, rfl, ⟨hst, hl⟩, hn, hD, .nil, Nat.zero_le _, fun _ _ _ _ _ e => e⟩
  obtain ⟨h', tk, j, us, m', rfl, hj, rfl, hst', hn', hD', hus, hul, hk'⟩ := hI
  show wpAny _ A ((compTurn _ 0 (.ref I) (.ref D) (compEnvC scope cl C env)).onRaise (fun x => do noteFrame x (compEnvC scope cl C env); theTreesLotGoes x)) _ _ _
  refine wpAny_noted ?_
  rw [turn_out]
  by_cases hlt : j < ss.length
  · refine wpAny_bind (wpAny_standAt (wpAny_bind (W.item j _ _ _ hlt hst' fun v h₂ tk₂ hPv hst₂ hk₂ => ?_)))
    dsimp only
    refine wpAny_bind (wpAny_of_eq (a := ()) rfl ?_)
    obtain ⟨r, t, hrj, rfl⟩ := strs_at hv j v (by simpa using hPv)
    have hrl := hr r (List.mem_of_getElem? hrj)
    have haN : ax ∉ [I] := hdr _ haI
    refine wpAny_bind (wpAny_assign_Name (wpAny_storeName_local (lookup_relabel_local hx1) (hn'.at' fun o e => hk₂ _ o (hdr _ hCI) e) (fun h₃ hn₃ hs₃ => ?_) (by simp [compEnvC, relabel, hkind])))
    have hst₃ : h₃.IsListIter I ax (j + 1) ∧ h₃.IsList ax vs.toArray := W.frame _ _ _ hst₂ fun b hb o e => hs₃.extBut b o (fun q => by
      rcases List.mem_cons.mp hb with rfl | hb
      · exact hCI q.symm
      · rw [List.mem_singleton.mp hb] at q; exact haC q) e
    have hD₃ : h₃.get? D = some (LCg.lst us) := hs₃.extBut _ _ (Ne.symm hCD) (hk₂ _ _ (hdr _ hDI) hD')
    have hm₃ : (fun z => if z = x1 then some (Value.str r t) else m' z) x1 = some (.str r t) := by simp
    refine wpAny_bind (wpAny_Constant_str ?_)
    refine wpAny_bind (wpAny_standAt (wpAny_bind (wpAny_pure ?_)))
    refine wpAny_bind (wpAny_holding (wpAny_pyIter_str fun oI St2 hW2 hst2 => ?_))
    dsimp only at hst2 ⊢
    generalize hH4 : h₃.push oI = H4 at hst2 ⊢
    have up4 : ∀ b o, h₃.get? b = some o → H4.get? b = some o := fun b o e => hH4 ▸ Heap.get?_push_of_some _ e
    have hlt3 : ∀ b o, h₃.get? b = some o → b ≠ h₃.objs.size := fun b o e => Nat.ne_of_lt (Heap.lt_size e)
    obtain ⟨oC, hoC, _⟩ := LCg.ns_obj hn₃
    refine wpAny_bind (wpAny_runOwn (h := none) ?_ (by intro x; cases x))
    have hA : (A.mark none).handled = none := by show (Option.or none A.handled) = none; rw [hh]; rfl
    refine (fun key => start_in key ((hW2 (A.mark none) hA).self 0 _ _ _ hst2 key)) ?_
    refine loop_in (A := A.mark none) (m := fun z => if z = x1 then some (Value.str r t) else m' z) (ys := us) (hW2 _ hA) hkind hx1 hx2 hne hd1 hd2 hCD (hlt3 _ _ hoC) (hlt3 _ _ hD₃) hst2 (hn₃.at' fun o e => up4 _ _ e) hm₃ (up4 _ _ hD₃) (by omega) (by omega) (by omega) (fun h₅ tk₅ us' m₅ hn₅ hD₅ hus₅ hk₅ => ?_)
    have keep5 : ∀ b o, b ≠ C → b ≠ D → h₃.get? b = some o → h₅.get? b = some o := fun b o h1 h2 e => hk₅ b o h1 h2 (hlt3 _ _ e) (up4 _ _ e)
    have hl5 : us'.length ≤ 3 := by
      have := StrsAre.length hus₅
      simp only [List.length_map, Array.length_toList] at this
      rw [this]
      exact hy
    dsimp only
    refine wpAny_pure ⟨rfl, ss.length + 1 - (j + 1), by omega, h₅, tk₅, j + 1, us ++ us', m₅, rfl, hlt, rfl, ⟨?_, ?_⟩, hn₅, hD₅, ?_, by rw [List.length_append]; omega, fun b o h1 h2 h3 e => keep5 _ _ h1 h2 (hs₃.extBut _ _ h1 (hk₂ _ _ (hdr _ h3) (hk' b o h1 h2 h3 e)))⟩
    · exact hst₃.1.at fun o e => keep5 _ _ (Ne.symm hCI) (Ne.symm hDI) e
    · exact hst₃.2.at fun o e => keep5 _ _ haC haD e
    · rw [List.take_add_one, hrj, rowsOf_append]
      refine StrsAre.append' hus ?_
      show StrsAre us' (rowsOf y [r])
      unfold rowsOf
      rw [List.flatMap_cons, List.flatMap_nil, List.append_nil]
      exact hus₅
  · obtain rfl : j = ss.length := Nat.le_antisymm hj (Nat.not_lt.mp hlt)
    refine wpAny_bind (wpAny_standAt (wpAny_bind (W.done _ _ _ hst' fun h₂ tk₂ hk₂ => wpAny_pure ?_)))
    rw [List.take_length] at hus
    exact hR h₂ tk₂ us m' (hn'.at' fun o e => hk₂ _ o (hdr _ hCI) e) (hk₂ _ _ (hdr _ hDI) hD') hus fun b o h1 h2 h3 e => hk₂ _ _ (hdr _ h3) (hk' b o h1 h2 h3 e)
end
end Mine
end
section
theorem Mine.fresh_CRwC : True := by
  w_top off
  k_with_none
  trivial
open PySem PySem.W PyProof.Rows PySem.Calls PySem.Spec
set_option maxRecDepth 100000
namespace Mine
section
variable {prog : Program} {w : World} {A : Around} {E : Value → Shared → Prop} {s : Shared} {h₀ : Heap} {L : Addr} {m : Str → Option Value} {news : List (Addr × Obj)} {env : Env}
theorem rows_assign {x1 x2 y rv yv : Str} {k c : Nat} {p1 p2 q1 q2 bp cp pos py rp spos : Pos} {scope : Scope} {cl : List (Str × Addr)} {ax : Addr} {vs : List Value} {ss : List Str} {Q : Flow → Shared → Prop}
    (F₀ : Fr h₀ L s.heap m) (N₀ : News h₀ L s.heap news) (hm : (ax, W.listOf vs.toArray c) ∈ news) (hrv : m rv = some (.ref ax)) (hLe : env.locals = L) (hh : A.handled = none)
    (hsw : swapsWith (rowsComp x1 x2 (.Name rv rp) y k p1 p2 q1 q2 bp cp scope pos) (some (.Name yv py)) spos.line env = pure true)
    (hclos : closureFor scope env = pure cl) (hcell : ∀ z ∈ scope.names, z.2 ≠ .cell) (hkind : scope.kind = .function)
    (hnames : ∀ z ∈ scope.names, z.2 = .local → scope.names.lookup z.1 = some .local) (hx1 : scope.names.lookup x1 = some .local) (hx2 : scope.names.lookup x2 = some .local) (hne : (x1 == x2) = false)
    (hd1 : (x1 == ("__debug__" : Str)) = false) (hd2 : (x2 == ("__debug__" : Str)) = false) (hd3 : (rv == ("__debug__" : Str)) = false)
    (hek : env.scope.kind = .function) (hry : env.kindOf rv = some .local) (hy : env.kindOf yv = some .local) (hp : (env.scope.kind == .class || (env.scope.kind == .module && env.locals != env.globals)) = false)
    (hv : StrsAre vs ss) (hvl : ss.length ≤ 20) (hr : ∀ r ∈ ss, r.length ≤ 50) (hyl : y.cps.size ≤ 3)
    (hQ : ∀ D us h tk, Fr h₀ L h (fun z => if z = yv then some (.ref D) else m z) → News h₀ L h ((D, LCg.lst us) :: news) → (∀ p ∈ news, p.1 < D) → StrsAre us (rowsOf y ss) → Q .next { s with heap := h, toks := tk }) :
    wpAny (model prog w) A (exec (.Assign [.Name yv py] (rowsComp x1 x2 (.Name rv rp) y k p1 p2 q1 q2 bp cp scope pos) spos) env) Q E s := by
  subst hLe
  rw [exec_Assign_Name_used _ _ _ _ hsw]
  refine wpAny_bind (wpAny_standAt (wpAny_bind ?_))
  show wpAny _ A (do let _ ← comprehension (rowsComp x1 x2 (.Name rv rp) y k p1 p2 q1 q2 bp cp scope pos) scope env _ (newList []) false (eval (.Name rv rp) env) (some (assign (.Name yv py) env))) _ _ s
  refine wpAny_bind (wpAny_mono (wpAny_comprehension_free (use := some (assign (.Name yv py) env)) (Q := fun _ s' => Q .next s') rfl (fun _ => rfl) hclos hkind hnames
    (wpAny_Name (wpAny_loadName_local hek hry F₀.ns hrv ?_) hd3)) (fun _ s' hq => wpAny_pure (wpAny_pure hq)) fun _ _ e => e)
  have hl := News.isList N₀ hm
  have hlt : ax < s.heap.objs.size := Heap.lt_size (N₀ _ hm).1
  refine wpAny_pyIter_list hl ?_
  have upI : ∀ b o, s.heap.get? b = some o → (s.heap.push { cls := .type "list_iterator", data := .fields #[.ref ax, .int 0 0] }).get? b = some o := fun b o e => Heap.get?_push_of_some _ e
  have hIit : (s.heap.push { cls := .type "list_iterator", data := .fields #[.ref ax, .int 0 0] }).IsListIter s.heap.objs.size ax 0 := ⟨_, Heap.get?_push_size _ rfl, rfl, rfl⟩
  have hsz1 : (s.heap.push { cls := .type "list_iterator", data := .fields #[.ref ax, .int 0 0] }).objs.size = s.heap.objs.size + 1 := Heap.size_push ..
  generalize s.heap.push { cls := .type "list_iterator", data := .fields #[.ref ax, .int 0 0] } = H1 at upI hIit hsz1 ⊢
  refine wpAny_newObj_type (wpAny_newFunctionEnv hcell (by intro z hz; simp at hz) (fun h₁ hns₁ hsb₁ => ?_) hkind)
  dsimp only at hns₁ hsb₁ ⊢
  have up2 : ∀ b o, H1.get? b = some o → (H1.push { cls := .type "list", dict := none, data := .seq ([] : List Value).toArray }).get? b = some o := fun b o e => Heap.get?_push_of_some _ e
  have hD2 : (H1.push { cls := .type "list", dict := none, data := .seq ([] : List Value).toArray }).get? H1.objs.size = some (LCg.lst []) := Heap.get?_push_size _ rfl
  have hsz2 : (H1.push { cls := .type "list", dict := none, data := .seq ([] : List Value).toArray }).objs.size = H1.objs.size + 1 := Heap.size_push ..
  generalize H1.push { cls := .type "list", dict := none, data := .seq ([] : List Value).toArray } = H2 at hns₁ hsb₁ up2 hD2 hsz2 ⊢
  have hID : s.heap.objs.size < H1.objs.size := by rw [hsz1]; exact Nat.lt_succ_self _
  have hDC : H1.objs.size < H2.objs.size := by rw [hsz2]; exact Nat.lt_succ_self _
  have up3 : ∀ b o, H2.get? b = some o → h₁.get? b = some o := fun b o e => hsb₁.extBut b o (Nat.ne_of_lt (Heap.lt_size e)) (Heap.get?_push_of_some _ e)
  have old : ∀ b o, s.heap.get? b = some o → h₁.get? b = some o := fun b o e => up3 _ _ (up2 _ _ (upI _ _ e))
  have ltS : ∀ b o, s.heap.get? b = some o → @Ne Nat b H2.objs.size ∧ @Ne Nat b H1.objs.size ∧ @Ne Nat b s.heap.objs.size := fun b o e => by
    have hb := Heap.lt_size e
    exact ⟨Nat.ne_of_lt (Nat.lt_trans hb (Nat.lt_trans hID hDC)), Nat.ne_of_lt (Nat.lt_trans hb hID), Nat.ne_of_lt hb⟩
  obtain ⟨oL, esL, epL, hL, _⟩ := F₀.ns
  obtain ⟨oA, hA1, _⟩ := hl
  have hLn := ltS _ _ hL
  have hAn := ltS _ _ hA1
  have fresh₀ : ∀ a, s.heap.objs.size ≤ a → h₀.get? a = none := fun a ha => by
    cases e : h₀.get? a with
    | none => rfl
    | some o' => exact absurd (Nat.lt_of_lt_of_le (Heap.lt_size (F₀.keep a o' e)) ha) (Nat.lt_irrefl _)
  have lp : ∀ s₄ : Shared, s₄ = { s with heap := h₁, toks := s₄.toks } →
      codeAny (model prog w) A (.compLoop (rowsComp x1 x2 (.Name rv rp) y k p1 p2 q1 q2 bp cp scope pos) 0 (.ref s.heap.objs.size) (.ref H1.objs.size) (compEnvC scope cl H2.objs.size env)) (compPost (model prog w) A E (some (assign (.Name yv py) env)) (fun _ s' => Q .next s') (.ref H1.objs.size) H2.objs.size) s₄ := by
    intro s₄ e4
    rw [e4]
    refine loop_out hh hkind hx1 hx2 hne hd1 hd2 (Nat.ne_of_gt hDC) (Nat.ne_of_gt (Nat.lt_trans hID hDC)) (Nat.ne_of_gt hID) hAn.1 hAn.2.1 hAn.2.2
      (hIit.at fun o e => up3 _ _ (up2 _ _ e)) (hl := by exact ⟨oA, old _ _ hA1, by assumption⟩) hns₁ (up3 _ _ hD2) hv hvl hr hyl fun h₅ tk₅ us m₅ hn₅ hD₅ hus₅ hk₅ => ?_
    have keep : ∀ b o, s.heap.get? b = some o → h₅.get? b = some o := fun b o e => hk₅ b o (ltS b o e).1 (ltS b o e).2.1 (ltS b o e).2.2 (old b o e)
    have F5 : Fr h₀ env.locals h₅ m := F₀.kept keep
    show wpAny _ A (assign (.Name yv py) env (.ref H1.objs.size)) _ _ _
    refine wpAny_assign_Name (wpAny_storeName_local hy F5.ns (fun h₆ hn₆ hs₆ => ?_) hp)
    have hCL : H2.objs.size ≠ env.locals := fun q => hLn.1 q.symm
    refine ⟨m₅, hn₅.sameBut hs₆ hCL, fun h₇ hs₇ => ?_⟩
    have F6 : Fr h₀ env.locals h₆ (fun z => if z = yv then some (.ref H1.objs.size) else m z) := F5.set hn₆ hs₆
    have hC0 : h₀.get? H2.objs.size = none := fresh₀ _ (Nat.le_of_lt (Nat.lt_trans hID hDC))
    refine hQ H1.objs.size us h₇ _ (F6.change hs₇ hCL hC0) (fun p hp => ?_) (fun p hp => Nat.lt_trans (Heap.lt_size (N₀ p hp).1) hID) hus₅
    rcases List.mem_cons.mp hp with rfl | hp
    · exact ⟨hs₇.extBut _ _ (Nat.ne_of_lt hDC) (hs₆.extBut _ _ (Ne.symm hLn.2.1) hD₅), Ne.symm hLn.2.1, fresh₀ _ (Nat.le_of_lt hID)⟩
    · have z := N₀ p hp
      exact ⟨hs₇.extBut _ _ (ltS _ _ z.1).1 (hs₆.extBut _ _ z.2.1 (keep _ _ z.1)), z.2⟩
  exact codeAny_compStart_list (lp _ rfl) (wpAny_pyIter_listiter (hIit.at fun o e => up3 _ _ (up2 _ _ e)) (lp _ rfl))
end
end Mine
end
section
theorem Mine.fresh_CFor : True := by
  w_top off
  k_with_none
  trivial
open PySem PySem.W PyProof.Rows PySem.Calls PySem.Spec
set_option maxRecDepth 100000
namespace Mine
section
variable {prog : Program} {w : World} {A : Around} {E : Value → Shared → Prop} {s : Shared} {h₀ : Heap} {L : Addr} {m : Str → Option Value} {news : List (Addr × Obj)} {env : Env}
/-- a for over a range whose target is any name: the turn begins with the store -/
theorem iter_rangeC {target : Expr} {body : List Stmt} {Q : Flow → Shared → Prop} {r : Addr} {a₀ b₀ : Int} {t₀ u₀ v₀ : Tok} {n : Nat} (J : Nat → (Str → Option Value) → List (Addr × Obj) → Prop)
    (hh : A.handled = none) (hr : IsRange s.heap r a₀ b₀ 1 t₀ u₀ v₀) (hsmall : Builtin.Range.small a₀ b₀ 1 = true) (hn : Builtin.Range.rangeSize a₀ b₀ 1 = (n : Int)) (F : Fr h₀ L s.heap m) (N : News h₀ L s.heap news) (h0 : J 0 m news)
    (hE : PassesOwn (model prog w) A env E) (ht : ∀ v, letOwnedTupleGo target (.ref s.heap.objs.size) v = pure ())
    (turn : ∀ i m₁ nx I h tk t, i < n → J i m₁ nx → (∀ p ∈ nx, p.1 ≠ I) → Fr h₀ L h m₁ → News h₀ L h ((I, itR (a₀ + ((i + 1 : Nat) : Int)) ((n : Int) - ((i + 1 : Nat) : Int))) :: nx) →
      wpAny (model prog w) A (assign target env (.int (a₀ + (i : Int)) t)) (fun _ s₂ => wpAny (model prog w) A (execs body env) (fun f s₃ =>
        UnrPost h₀ L { s with heap := h, toks := tk } I (itR (a₀ + ((i + 1 : Nat) : Int)) ((n : Int) - ((i + 1 : Nat) : Int))) (J (i + 1)) Q f s₃) E s₂) E { s with heap := h, toks := tk })
    (done : ∀ m₁ nx h tk, J n m₁ nx → Fr h₀ L h m₁ → News h₀ L h nx → Q .next { s with heap := h, toks := tk }) :
    wpAny (model prog w) A (pyIter (.ref r)) (fun it s₂ => codeAny (model prog w) A (.forLoop target it body [] env) (fun r s' => match r with | .ok f => Q f s' | .error e => cameBackBy (model prog w) A env E e s') s₂) E s := by
  refine wpAny_pyIter_range hr hsmall ?_
  have hnew := next_is_new F
  have hLn : L ≠ s.heap.objs.size := Nat.ne_of_lt F.ns.lt
  have W : Walks prog w A s.heap.objs.size [s.heap.objs.size] [s.heap.objs.size] n (fun i v => i < n ∧ ∃ t, v = .int (a₀ + i * 1) t)
      (fun i h => IsRangeIter h s.heap.objs.size (a₀ + (i : Nat) * 1) ((n : Int) - (i : Nat)) 1) := (Walks.range hh _ a₀ 1 n).bound
  have hI0 : (s.heap.push { cls := .type "range_iterator", data := .fields #[rawInt a₀, rawInt (Builtin.Range.rangeSize a₀ b₀ 1), rawInt 1] }).get? s.heap.objs.size = some (itR (a₀ + ((0 : Nat) : Int)) ((n : Int) - ((0 : Nat) : Int))) := by
    rw [hn]; simpa [itR] using Heap.get?_push_size _ rfl
  have up : ∀ b o, s.heap.get? b = some o → (s.heap.push { cls := .type "range_iterator", data := .fields #[rawInt a₀, rawInt (Builtin.Range.rangeSize a₀ b₀ 1), rawInt 1] }).get? b = some o := fun b o e => Heap.get?_push_of_some _ e
  generalize s.heap.push { cls := .type "range_iterator", data := .fields #[rawInt a₀, rawInt (Builtin.Range.rangeSize a₀ b₀ 1), rawInt 1] } = H at hI0 up ⊢
  refine codeAny_forLoop (fun k s' => ∃ h' tk i m₁ nx, s' = { s with heap := h', toks := tk } ∧ i ≤ n ∧ k = n + 1 - i ∧ J i m₁ nx ∧ (∀ p ∈ nx, p.1 ≠ s.heap.objs.size) ∧ Fr h₀ L h' m₁ ∧
      News h₀ L h' ((s.heap.objs.size, itR (a₀ + (i : Int)) ((n : Int) - (i : Int))) :: nx)) (fun k s' hI => ?_) (n + 1)
    ⟨H, s.toks, 0, m, news, rfl, Nat.zero_le _, rfl, h0, fun p hp => Nat.ne_of_lt (Heap.lt_size (N p hp).1), F.keeps up, fun p hp => ?_⟩ ht
  · obtain ⟨h', tk, i, m₁, nx, rfl, hi, rfl, hJ, hoff, F', N'⟩ := hI
    have hst : IsRangeIter h' s.heap.objs.size (a₀ + (i : Nat) * 1) ((n : Int) - (i : Nat)) 1 := by
      show h'.get? _ = some _
      rw [(N' _ (.head _)).1, Int.mul_one]
      rfl
    have next : ∀ h₁ : Heap, (∀ b o, b ∉ [s.heap.objs.size] → h'.get? b = some o → h₁.get? b = some o) → Fr h₀ L h₁ m₁ ∧ News h₀ L h₁ nx := fun h₁ hk₁ =>
      ⟨⟨F'.ns.at' fun o e => hk₁ _ o (by simpa using hLn) e, fun b o e => hk₁ b o (fun hm => by rw [List.mem_singleton.mp hm, hnew] at e; cases e) (F'.keep b o e), F'.above⟩,
        fun p hp => ⟨hk₁ _ _ (by simpa using hoff p hp) (N' p (.tail _ hp)).1, (N' p (.tail _ hp)).2⟩⟩
    refine wpAny_passesOwn hE ?_
    by_cases hlt : i < n
    · refine W.item i _ _ _ hlt hst fun v h₁ tk₁ hP hst₁ hk₁ => ?_
      obtain ⟨F₁, N₁⟩ := next h₁ hk₁
      obtain ⟨_, t, rfl⟩ := hP
      have e1 : a₀ + (i : Int) * 1 = a₀ + (i : Int) := by omega
      rw [e1]
      have hget : h₁.get? s.heap.objs.size = some (itR (a₀ + ((i + 1 : Nat) : Int)) ((n : Int) - ((i + 1 : Nat) : Int))) := by
        have q : IsRangeIter h₁ s.heap.objs.size (a₀ + ((i + 1 : Nat) : Int) * 1) ((n : Int) - ((i + 1 : Nat) : Int)) 1 := hst₁
        rw [Int.mul_one] at q
        exact q
      have N₂ : News h₀ L h₁ ((s.heap.objs.size, itR (a₀ + ((i + 1 : Nat) : Int)) ((n : Int) - ((i + 1 : Nat) : Int))) :: nx) := fun p hp => by
        rcases List.mem_cons.mp hp with rfl | hp
        · exact ⟨hget, Ne.symm hLn, hnew⟩
        · exact N₁ p hp
      dsimp only
      refine wpAny_passesOwn hE (wpAny_mono (turn i m₁ nx s.heap.objs.size h₁ tk₁ t hlt hJ hoff F₁ N₂) (fun _ s₂ h₂ => wpAny_passesOwn hE (wpAny_mono h₂ (fun f s₃ h₃ => ?_) fun _ _ e => e)) fun _ _ e => e)
      have fin : UnrEnd h₀ L { s with heap := h₁, toks := tk₁ } s.heap.objs.size (itR (a₀ + ((i + 1 : Nat) : Int)) ((n : Int) - ((i + 1 : Nat) : Int))) (J (i + 1)) s₃ → ∃ k, k < n + 1 - i ∧ ∃ h' tk i m₁ nx, s₃ = { s with heap := h', toks := tk } ∧ i ≤ n ∧ k = n + 1 - i ∧ J i m₁ nx ∧ (∀ p ∈ nx, p.1 ≠ s.heap.objs.size) ∧ Fr h₀ L h' m₁ ∧
          News h₀ L h' ((s.heap.objs.size, itR (a₀ + (i : Int)) ((n : Int) - (i : Int))) :: nx) := by
        rintro ⟨h', tk, m', news', e, F', N', ho, hj⟩
        exact ⟨n + 1 - (i + 1), by omega, h', tk, i + 1, m', news', e, hlt, rfl, hj, ho, F', N'⟩
      cases f with
      | ret v => exact h₃
      | brk => exact h₃
      | next => exact fin h₃
      | cont => exact fin h₃
    · obtain rfl : i = n := Nat.le_antisymm hi (Nat.not_lt.mp hlt)
      refine W.done _ _ _ hst fun h₁ tk₁ hk₁ => ?_
      obtain ⟨F₁, N₁⟩ := next h₁ hk₁
      dsimp only
      exact wpAny_pure (done _ _ _ _ hJ F₁ N₁)
  · rcases List.mem_cons.mp hp with rfl | hp
    · exact ⟨hI0, Ne.symm hLn, hnew⟩
    · exact ⟨up _ _ (N p hp).1, (N p hp).2⟩
end
end Mine
end
section
theorem Mine.fresh_T4H : True := by
  w_top off
  k_with_none
  trivial
open PySem PySem.W PyProof.Rows PySem.Calls PySem.Spec
namespace Mine
noncomputable def bodyF : List Stmt := match lawBody.drop 14 with
  | .For _ _ b _ _ :: _ => b
  | _ => []
noncomputable def targetF : Expr := match lawBody.drop 14 with
  | .For t _ _ _ _ :: _ => t
  | _ => default
noncomputable def rawPl (size step : Int) (k : Nat) : List Int := (rangeKs 0 (k + 1)).map fun i => (-i * step).fmod size
noncomputable def isortI : List Int → List Int
  | [] => []
  | x :: l => ins x (isortI l)
where ins (x : Int) : List Int → List Int
  | [] => [x]
  | y :: l => if x ≤ y then x :: y :: l else y :: ins x l
noncomputable def places (size step : Int) (k : Nat) : List Int := isortI (setOf true (rawPl size step k)).1.toList
noncomputable def pairs : List (Int × Int) := ((List.range 16).map fun (i : Nat) => ((16 : Int), (i : Int))) ++ ((List.range 8).map fun (i : Nat) => ((8 : Int), (i : Int))) ++ ((List.range 16).map fun (i : Nat) => ((32 : Int), (i : Int) + 8))
theorem good_mem {size step : Int} (h : Good size step) : (size, step) ∈ pairs := by
  unfold pairs
  rcases h with ⟨rfl, h1, h2⟩ | ⟨rfl, h1, h2⟩ | ⟨rfl, h1, h2⟩
  · exact List.mem_append_left _ (List.mem_append_left _ (List.mem_map.2 ⟨step.toNat, List.mem_range.2 (by omega), by congr 1; omega⟩))
  · exact List.mem_append_left _ (List.mem_append_right _ (List.mem_map.2 ⟨step.toNat, List.mem_range.2 (by omega), by congr 1; omega⟩))
  · exact List.mem_append_right _ (List.mem_map.2 ⟨(step - 8).toNat, List.mem_range.2 (by omega), by congr 1; omega⟩)
noncomputable def setOk (size step : Int) (k : Nat) : Bool :=
  let l := rawPl size step k
  (setGood true l) && (setGood false l) && (setOf true l).1 == (setOf false l).1 && l.all (fun x => decide (0 ≤ x) && decide (x < 64))
theorem setOk_0 : pairs.all (fun p => setOk p.1 p.2 0) = true := by decide +kernel
theorem setOk_1 : pairs.all (fun p => setOk p.1 p.2 1) = true := by decide +kernel
theorem setOk_2 : pairs.all (fun p => setOk p.1 p.2 2) = true := by decide +kernel
theorem setOk_3 : pairs.all (fun p => setOk p.1 p.2 3) = true := by decide +kernel
theorem setOk_4 : pairs.all (fun p => setOk p.1 p.2 4) = true := by decide +kernel
theorem setOk_at {a b : Int} {k : Nat} (h : (a, b) ∈ pairs) (hk : k < 5) : setOk a b k = true := by
  match k, hk with
  | 0, _ => have h2 := List.all_eq_true.1 setOk_0 _ h; exact h2
  | 1, _ => have h2 := List.all_eq_true.1 setOk_1 _ h; exact h2
  | 2, _ => have h2 := List.all_eq_true.1 setOk_2 _ h; exact h2
  | 3, _ => have h2 := List.all_eq_true.1 setOk_3 _ h; exact h2
  | 4, _ => have h2 := List.all_eq_true.1 setOk_4 _ h; exact h2
theorem ins_perm (x : Int) : ∀ l, (isortI.ins x l).Perm (x :: l)
  | [] => .refl _
  | y :: l => by
    unfold isortI.ins
    split
    · exact .refl _
    · exact (List.Perm.cons y (ins_perm x l)).trans (List.Perm.swap x y l)
theorem isort_perm : ∀ l, (isortI l).Perm l
  | [] => .refl _
  | x :: l => (ins_perm x _).trans (List.Perm.cons x (isort_perm l))
theorem ins_sorted (x : Int) : ∀ l : List Int, l.Pairwise (· ≤ ·) → (isortI.ins x l).Pairwise (· ≤ ·)
  | [], _ => List.pairwise_singleton _ _
  | y :: l, h => by
    unfold isortI.ins
    have h1 := List.pairwise_cons.1 h
    split
    · rename_i hxy
      refine List.pairwise_cons.2 ⟨fun z hz => ?_, h⟩
      rcases List.mem_cons.1 hz with rfl | hz
      · exact hxy
      · exact Int.le_trans hxy (h1.1 z hz)
    · rename_i hxy
      refine List.pairwise_cons.2 ⟨fun z hz => ?_, ins_sorted x l h1.2⟩
      rcases List.mem_cons.1 ((ins_perm x l).mem_iff.1 hz) with rfl | hz
      · omega
      · exact h1.1 z hz
theorem isort_sorted : ∀ l, (isortI l).Pairwise (· ≤ ·)
  | [] => .nil
  | x :: l => ins_sorted x _ (isort_sorted l)
theorem sorted_unique {a b : List Int} (p : a.Perm b) (ha : a.Pairwise (· ≤ ·)) (hb : b.Pairwise (· ≤ ·)) : a = b :=
  List.Perm.eq_of_pairwise (fun x y _ _ h1 h2 => Int.le_antisymm h1 h2) ha hb p
structure SetFacts (size step : Int) (k : Nat) : Prop where
  good : ∀ led, setGood led (rawPl size step k) = true
  same : ∀ led, (setOf led (rawPl size step k)).1 = (setOf true (rawPl size step k)).1
  rng : ∀ x ∈ rawPl size step k, 0 ≤ x ∧ x < 64
theorem setFacts {size step : Int} {k : Nat} (hg : Good size step) (hk : k < 5) : SetFacts size step k := by
  have h := setOk_at (good_mem hg) hk
  unfold setOk at h
  simp only [Bool.and_eq_true, List.all_eq_true, decide_eq_true_eq, beq_iff_eq] at h
  obtain ⟨⟨⟨h1, h2⟩, h3⟩, h4⟩ := h
  exact ⟨fun led => by cases led <;> assumption, fun led => by cases led; exact h3.symm; rfl, h4⟩
end Mine
end
section
theorem Mine.fresh_T4A : True := by
  w_top off
  k_with_none
  trivial
open PySem PySem.W PyProof.Rows PySem.Calls PySem.Spec
namespace Mine
set_option maxRecDepth 100000 in
set_option maxHeartbeats 8000000 in
theorem turnA (w : World) (p : Program) (loose : List Str) (mean : ExcName → Option Value) (mg mb : Str → Option Value) (L fa : Addr) (h₀ : Heap) (m : Str → Option Value) (s : Shared) (Q : Flow → Shared → Prop) (E : Value → Shared → Prop)
    (size step : Int) (k : Nat) (t1 t2 t3 : Tok) (o1 o2 o3 o4 o5 : Obj) (ra : Addr) (vr : List Value) (cr : Nat) (rs : List Str) (tab : Array Value) (xa I : Addr) (xo it : Obj)
    (B : Below callerA h₀ [] h₀) (X : (Mine.hd.heap_39 w.params).In h₀) (T : Top p loose mean mg mb h₀) (l0 : 70 < L)
    (F : Fr h₀ L s.heap (fun z => if z = Str.ofString "rows" then some (.ref ra) else m z))
    (N : News h₀ L s.heap [(ra, W.listOf vr.toArray cr), (L + 1 + 1 + 1 + 1 + 1, o5), (L + 1 + 1 + 1 + 1, o4), (L + 1 + 1 + 1, o3), (L + 1 + 1, o2), (L + 1, o1), (70, tabObj tab), (xa, xo), (I, it)])
    (d1 : o1.data = .cell (some (.int size t1))) (d2 : o2.data = .cell (some (.int step t2))) (d3 : o3.data = .cell (some (.int (k : Int) t3)))
    (hg : Good size step) (hk : k < 5) (hv : StrsAre vr rs) (hrl : rs.length ≤ 8) (hrr : ∀ r ∈ rs, r.length ≤ 5)
    (next : ∀ ra' us pa vp cp h tk, Fr h₀ L h (fun z => if z = Str.ofString "places" then some (.ref pa) else if z = Str.ofString "rows" then some (.ref ra') else m z) →
      News h₀ L h [(pa, W.listOf vp.toArray cp), (ra', LCg.lst us), (L + 1 + 1 + 1 + 1 + 1, o5), (L + 1 + 1 + 1 + 1, o4), (L + 1 + 1 + 1, o3), (L + 1 + 1, o2), (L + 1, o1), (70, tabObj tab), (xa, xo), (I, it)] →
      @LT.lt Nat _ ra' pa → @LT.lt Nat _ I ra' → @LT.lt Nat _ xa ra' → @LT.lt Nat _ (L + 1 + 1 + 1 + 1 + 1) ra' → IntsAre vp (places size step k) → StrsAre us (rowsOf (Str.ofString "ab") rs) →
      Goes w (callerA.deeper (env0 L fa)) (bodyF.drop 2) (env0 L fa) Q E { s with heap := h, toks := tk }) :
    Goes w (callerA.deeper (env0 L fa)) bodyF (env0 L fa) Q E s := by
  refine ⟨?_⟩
  have sf := setFacts hg hk
  have hs0 : 0 < size := by rcases hg with h | h | h <;> omega
  have hs1 : size ≤ 32 := by rcases hg with h | h | h <;> omega
  have hp0 : 0 ≤ step := by rcases hg with h | h | h <;> omega
  have hp1 : step ≤ 32 := by rcases hg with h | h | h <;> omega
  revert X
  k_fill
  intro X
  revert next
  unfold env0
  rw [show bodyF = [_, _, _, _, _, _] from rfl]
  rw [show lawScope = ⟨_, _, _, _, _⟩ from rfl]
  intro next
  (repeat' (first | (k_unfold; (try dsimp only)) | (k_end; kc_close) | ((fail_if_success (first | (with_reducible show wpAny _ _ (pyIter _) _ _ _) | (with_reducible show wpAny _ _ (call (Value.ref _) _) _ _ _) | (with_reducible show LCg.CompSrc _ _ _ _ _ _ _ _ _ _ _ _ _ _) | (with_reducible show wpAny _ _ (exec (Stmt.While _ _ _ _) _) _ _ _) | (with_reducible show wpAny _ _ (exec (Stmt.For _ _ _ _ _) _) _ _ _) | (with_reducible show wpAny _ _ (exec (Stmt.Assign _ (Expr.ListComp _ _ _ _) _) _) _ _ _) | (with_reducible show wpAny _ _ (call (Value.type "set") _) _ _ _) | (with_reducible show wpAny _ _ (call (Value.builtin "sorted") _) _ _ _) | (with_reducible show wpAny _ _ (execs [_, _, _, _] _) _ _ _))); walk1) | ((fail_if_success (first | (with_reducible show wpAny _ _ (pyIter _) _ _ _) | (with_reducible show wpAny _ _ (call (Value.ref _) _) _ _ _) | (with_reducible show LCg.CompSrc _ _ _ _ _ _ _ _ _ _ _ _ _ _) | (with_reducible show wpAny _ _ (exec (Stmt.While _ _ _ _) _) _ _ _) | (with_reducible show wpAny _ _ (exec (Stmt.For _ _ _ _ _) _) _ _ _) | (with_reducible show wpAny _ _ (exec (Stmt.Assign _ (Expr.ListComp _ _ _ _) _) _) _ _ _) | (with_reducible show wpAny _ _ (call (Value.type "set") _) _ _ _) | (with_reducible show wpAny _ _ (call (Value.builtin "sorted") _) _ _ _) | (with_reducible show wpAny _ _ (execs [_, _, _, _] _) _ _ _))); dsimp only; walk1) | (leave1; walk_say "STEP leave1"; (try dsimp only)) | fail "no step"))
  k_dflt (refine' rows_assign (vs := vr) (ss := rs) F N (.head _) rfl rfl rfl ?a1 ?a2 ?a3 rfl ?a5 rfl rfl rfl (by decide) (by decide) (by decide) rfl rfl rfl rfl hv (by omega) (fun r hr => Nat.le_trans (hrr r hr) (by decide)) (by decide) (fun ra' us h5 tk5 F5 N5 l5 hus => ?_))
  case a1 => with_unfolding_all rfl
  case a2 => with_unfolding_all rfl
  case a3 => decide
  case a5 => decide
  have l5a : @LT.lt Nat _ ra ra' := l5 _ (.head _)
  have l5b : @LT.lt Nat _ (L + 1 + 1 + 1 + 1 + 1) ra' := l5 _ (.tail _ (.head _))
  have l5c : @LT.lt Nat _ I ra' := l5 (I, it) (by simp)
  have l5d : @LT.lt Nat _ xa ra' := l5 (xa, xo) (by simp)
  have hfe : (fun z => if z = Str.ofString "rows" then some (Value.ref ra') else if z = Str.ofString "rows" then some (Value.ref ra) else m z) = fun z => if z = Str.ofString "rows" then some (Value.ref ra') else m z := funext fun z => by
    by_cases hz : z = Str.ofString "rows" <;> simp [hz]
  rw [hfe] at F5
  have N5' := fun q (hq : q ∈ [(ra', LCg.lst us), (L + 1 + 1 + 1 + 1 + 1, o5), (L + 1 + 1 + 1 + 1, o4), (L + 1 + 1 + 1, o3), (L + 1 + 1, o2), (L + 1, o1), (70, tabObj tab), (xa, xo), (I, it)]) => N5 q (by
    rcases List.mem_cons.mp hq with rfl | hq
    · exact .head _
    · exact .tail _ (.tail _ hq))
  change News h₀ L h5 _ at N5'
  clear F N l5 N5 hfe
  (repeat' (first | (k_unfold; (try dsimp only)) | (k_end; kc_close) | ((fail_if_success (first | (with_reducible show wpAny _ _ (pyIter _) _ _ _) | (with_reducible show wpAny _ _ (call (Value.ref _) _) _ _ _) | (with_reducible show LCg.CompSrc _ _ _ _ _ _ _ _ _ _ _ _ _ _) | (with_reducible show wpAny _ _ (exec (Stmt.While _ _ _ _) _) _ _ _) | (with_reducible show wpAny _ _ (exec (Stmt.For _ _ _ _ _) _) _ _ _) | (with_reducible show wpAny _ _ (exec (Stmt.Assign _ (Expr.ListComp _ _ _ _) _) _) _ _ _) | (with_reducible show wpAny _ _ (call (Value.type "set") _) _ _ _) | (with_reducible show wpAny _ _ (call (Value.builtin "sorted") _) _ _ _) | (with_reducible show wpAny _ _ (execs [_, _, _, _] _) _ _ _))); walk1) | ((fail_if_success (first | (with_reducible show wpAny _ _ (pyIter _) _ _ _) | (with_reducible show wpAny _ _ (call (Value.ref _) _) _ _ _) | (with_reducible show LCg.CompSrc _ _ _ _ _ _ _ _ _ _ _ _ _ _) | (with_reducible show wpAny _ _ (exec (Stmt.While _ _ _ _) _) _ _ _) | (with_reducible show wpAny _ _ (exec (Stmt.For _ _ _ _ _) _) _ _ _) | (with_reducible show wpAny _ _ (exec (Stmt.Assign _ (Expr.ListComp _ _ _ _) _) _) _ _ _) | (with_reducible show wpAny _ _ (call (Value.type "set") _) _ _ _) | (with_reducible show wpAny _ _ (call (Value.builtin "sorted") _) _ _ _) | (with_reducible show wpAny _ _ (execs [_, _, _, _] _) _ _ _))); dsimp only; walk1) | (leave1; walk_say "STEP leave1"; (try dsimp only)) | fail "no step"))
  rename IsRange _ _ _ _ _ _ _ _ => R2
  rename Fr _ _ _ _ => F4
  rename News _ _ _ _ => N4
  have hsm : Builtin.Range.small 0 ((k : Int) + 1) 1 = true := small_of (by omega) (by omega)
  have hsn : Builtin.Range.rangeSize 0 ((k : Int) + 1) 1 = (((k + 1 : Nat) : Nat) : Int) := by rw [size_of (by omega)]; congr 1
  refine LCg.CompSrc.range rfl F4 N4 R2 hsm hsn (by rw [sizeLine_eq]; omega) ?_
  intro g'
  refine kcf_range (fun i => (-i * step).fmod size) (fun k' t' I' oI' C' oC' D' m' ys' h' tk' E' hlo hhi hC hx F5 N5 off ne mk => ?_) ?_
  · (repeat' (first | (k_unfold; (try dsimp only)) | (k_end; kc_close) | ((fail_if_success (first | (with_reducible show wpAny _ _ (pyIter _) _ _ _) | (with_reducible show wpAny _ _ (call (Value.ref _) _) _ _ _) | (with_reducible show LCg.CompSrc _ _ _ _ _ _ _ _ _ _ _ _ _ _) | (with_reducible show wpAny _ _ (exec (Stmt.While _ _ _ _) _) _ _ _) | (with_reducible show wpAny _ _ (exec (Stmt.For _ _ _ _ _) _) _ _ _) | (with_reducible show wpAny _ _ (exec (Stmt.Assign _ (Expr.ListComp _ _ _ _) _) _) _ _ _) | (with_reducible show wpAny _ _ (call (Value.type "set") _) _ _ _) | (with_reducible show wpAny _ _ (call (Value.builtin "sorted") _) _ _ _) | (with_reducible show wpAny _ _ (execs [_, _, _, _] _) _ _ _))); walk1) | ((fail_if_success (first | (with_reducible show wpAny _ _ (pyIter _) _ _ _) | (with_reducible show wpAny _ _ (call (Value.ref _) _) _ _ _) | (with_reducible show LCg.CompSrc _ _ _ _ _ _ _ _ _ _ _ _ _ _) | (with_reducible show wpAny _ _ (exec (Stmt.While _ _ _ _) _) _ _ _) | (with_reducible show wpAny _ _ (exec (Stmt.For _ _ _ _ _) _) _ _ _) | (with_reducible show wpAny _ _ (exec (Stmt.Assign _ (Expr.ListComp _ _ _ _) _) _) _ _ _) | (with_reducible show wpAny _ _ (call (Value.type "set") _) _ _ _) | (with_reducible show wpAny _ _ (call (Value.builtin "sorted") _) _ _ _) | (with_reducible show wpAny _ _ (execs [_, _, _, _] _) _ _ _))); dsimp only; walk1) | (leave1; walk_say "STEP leave1"; (try dsimp only)) | fail "no step"))
  · intro ys hc
    (repeat' (first | (k_unfold; (try dsimp only)) | (k_end; kc_close) | ((fail_if_success (first | (with_reducible show wpAny _ _ (pyIter _) _ _ _) | (with_reducible show wpAny _ _ (call (Value.ref _) _) _ _ _) | (with_reducible show LCg.CompSrc _ _ _ _ _ _ _ _ _ _ _ _ _ _) | (with_reducible show wpAny _ _ (exec (Stmt.While _ _ _ _) _) _ _ _) | (with_reducible show wpAny _ _ (exec (Stmt.For _ _ _ _ _) _) _ _ _) | (with_reducible show wpAny _ _ (exec (Stmt.Assign _ (Expr.ListComp _ _ _ _) _) _) _ _ _) | (with_reducible show wpAny _ _ (call (Value.type "set") _) _ _ _) | (with_reducible show wpAny _ _ (call (Value.builtin "sorted") _) _ _ _) | (with_reducible show wpAny _ _ (execs [_, _, _, _] _) _ _ _))); walk1) | ((fail_if_success (first | (with_reducible show wpAny _ _ (pyIter _) _ _ _) | (with_reducible show wpAny _ _ (call (Value.ref _) _) _ _ _) | (with_reducible show LCg.CompSrc _ _ _ _ _ _ _ _ _ _ _ _ _ _) | (with_reducible show wpAny _ _ (exec (Stmt.While _ _ _ _) _) _ _ _) | (with_reducible show wpAny _ _ (exec (Stmt.For _ _ _ _ _) _) _ _ _) | (with_reducible show wpAny _ _ (exec (Stmt.Assign _ (Expr.ListComp _ _ _ _) _) _) _ _ _) | (with_reducible show wpAny _ _ (call (Value.type "set") _) _ _ _) | (with_reducible show wpAny _ _ (call (Value.builtin "sorted") _) _ _ _) | (with_reducible show wpAny _ _ (execs [_, _, _, _] _) _ _ _))); dsimp only; walk1) | (leave1; walk_say "STEP leave1"; (try dsimp only)) | fail "no step"))
    rename Fr _ _ _ _ => F6
    rename News _ _ _ _ => N6
    have hlr : ((rangeKs 0 (k + 1)).map fun i => (-i * step).fmod size).length = k + 1 := by rw [List.length_map, rangeKs_length]
    k_dflt (refine' set_K (vs := ys) F6 N6 rfl (.head _) hc (by rw [hlr]; omega) sf.rng sf.good (fun D h8 tk8 o es ep F8 N8 l8 hS hEn hsz => ?_))
    have hsz' : es.size ≤ k + 1 := by rw [hlr] at hsz; exact hsz
    have hE1 : Ent es (setOf true (rawPl size step k)).1 := by rw [← sf.same (!byText w)]; exact hEn
    (repeat' (first | (k_unfold; (try dsimp only)) | (k_end; kc_close) | ((fail_if_success (first | (with_reducible show wpAny _ _ (pyIter _) _ _ _) | (with_reducible show wpAny _ _ (call (Value.ref _) _) _ _ _) | (with_reducible show LCg.CompSrc _ _ _ _ _ _ _ _ _ _ _ _ _ _) | (with_reducible show wpAny _ _ (exec (Stmt.While _ _ _ _) _) _ _ _) | (with_reducible show wpAny _ _ (exec (Stmt.For _ _ _ _ _) _) _ _ _) | (with_reducible show wpAny _ _ (exec (Stmt.Assign _ (Expr.ListComp _ _ _ _) _) _) _ _ _) | (with_reducible show wpAny _ _ (call (Value.type "set") _) _ _ _) | (with_reducible show wpAny _ _ (call (Value.builtin "sorted") _) _ _ _) | (with_reducible show wpAny _ _ (execs [_, _, _, _] _) _ _ _))); walk1) | ((fail_if_success (first | (with_reducible show wpAny _ _ (pyIter _) _ _ _) | (with_reducible show wpAny _ _ (call (Value.ref _) _) _ _ _) | (with_reducible show LCg.CompSrc _ _ _ _ _ _ _ _ _ _ _ _ _ _) | (with_reducible show wpAny _ _ (exec (Stmt.While _ _ _ _) _) _ _ _) | (with_reducible show wpAny _ _ (exec (Stmt.For _ _ _ _ _) _) _ _ _) | (with_reducible show wpAny _ _ (exec (Stmt.Assign _ (Expr.ListComp _ _ _ _) _) _) _ _ _) | (with_reducible show wpAny _ _ (call (Value.type "set") _) _ _ _) | (with_reducible show wpAny _ _ (call (Value.builtin "sorted") _) _ _ _) | (with_reducible show wpAny _ _ (execs [_, _, _, _] _) _ _ _))); dsimp only; walk1) | (leave1; walk_say "STEP leave1"; (try dsimp only)) | fail "no step"))
    k_dflt (refine' sorted_set_K F8 N8 rfl (.head _) hS hE1 (by omega) (fun D2 vs2 ns2 c2 h9 tk9 F9 N9 l9 hi9 hp9 hs9 => ?_))
    obtain rfl : ns2 = places size step k := sorted_unique (hp9.trans (isort_perm _).symm) hs9 (isort_sorted _)
    clear F8 N8 F6 N6
    (repeat' (first | (k_unfold; (try dsimp only)) | (k_end; kc_close) | ((fail_if_success (first | (with_reducible show wpAny _ _ (pyIter _) _ _ _) | (with_reducible show wpAny _ _ (call (Value.ref _) _) _ _ _) | (with_reducible show LCg.CompSrc _ _ _ _ _ _ _ _ _ _ _ _ _ _) | (with_reducible show wpAny _ _ (exec (Stmt.While _ _ _ _) _) _ _ _) | (with_reducible show wpAny _ _ (exec (Stmt.For _ _ _ _ _) _) _ _ _) | (with_reducible show wpAny _ _ (exec (Stmt.Assign _ (Expr.ListComp _ _ _ _) _) _) _ _ _) | (with_reducible show wpAny _ _ (call (Value.type "set") _) _ _ _) | (with_reducible show wpAny _ _ (call (Value.builtin "sorted") _) _ _ _) | (with_reducible show wpAny _ _ (execs [_, _, _, _] _) _ _ _))); walk1) | ((fail_if_success (first | (with_reducible show wpAny _ _ (pyIter _) _ _ _) | (with_reducible show wpAny _ _ (call (Value.ref _) _) _ _ _) | (with_reducible show LCg.CompSrc _ _ _ _ _ _ _ _ _ _ _ _ _ _) | (with_reducible show wpAny _ _ (exec (Stmt.While _ _ _ _) _) _ _ _) | (with_reducible show wpAny _ _ (exec (Stmt.For _ _ _ _ _) _) _ _ _) | (with_reducible show wpAny _ _ (exec (Stmt.Assign _ (Expr.ListComp _ _ _ _) _) _) _ _ _) | (with_reducible show wpAny _ _ (call (Value.type "set") _) _ _ _) | (with_reducible show wpAny _ _ (call (Value.builtin "sorted") _) _ _ _) | (with_reducible show wpAny _ _ (execs [_, _, _, _] _) _ _ _))); dsimp only; walk1) | (leave1; walk_say "STEP leave1"; (try dsimp only)) | fail "no step"))
    rename Fr _ _ _ _ => F10
    rename News _ _ _ _ => N10
    (try dsimp only)
    with_reducible refine Goes.go ?_
    exact next ra' us D2 vs2 c2 _ _ F10 (fun q hq => N10 q (by
      rcases List.mem_cons.mp hq with rfl | hq
      · exact .head _
      · exact .tail _ (.tail _ (.tail _ hq)))) (l9 (ra', LCg.lst us) (.tail _ (.tail _ (.head _)))) l5c l5d l5b hi9 hus
end Mine
end
section
theorem Mine.fresh_T4B : True := by
  w_top off
  k_with_none
  trivial
open PySem PySem.W PyProof.Rows PySem.Calls PySem.Spec
namespace Mine
theorem strs_of_carried : ∀ {vs : List Value} {ss : List Str}, CarriedAll vs (ss.map PyData.str) → StrsAre vs ss
  | [], [], _ => .nil
  | v :: vs, s :: ss, h => by
    cases h with
    | cons h1 h2 =>
      cases h1
      exact .cons _ _ (strs_of_carried h2)
set_option maxRecDepth 100000 in
set_option maxHeartbeats 8000000 in
theorem turnB (w : World) (p : Program) (loose : List Str) (mean : ExcName → Option Value) (mg mb : Str → Option Value) (L fa : Addr) (h₀ : Heap) (m : Str → Option Value) (s : Shared) (Q : Flow → Shared → Prop) (E : Value → Shared → Prop)
    (size step : Int) (k : Nat) (t1 t2 t3 tm : Tok) (o1 o2 o3 o4 o5 : Obj) (ra pa : Addr) (vr vp : List Value) (cp : Nat) (tab : Array Value) (xa I : Addr) (xo it : Obj)
    (B : Below callerA h₀ [] h₀) (X : (Mine.hd.heap_39 w.params).In h₀) (T : Top p loose mean mg mb h₀) (l0 : 70 < L)
    (F : Fr h₀ L s.heap (fun z => if z = Str.ofString "places" then some (.ref pa) else if z = Str.ofString "rows" then some (.ref ra) else if z = Str.ofString "measure" then some (.int (Int.gcd size step) tm) else m z))
    (N : News h₀ L s.heap [(pa, W.listOf vp.toArray cp), (ra, LCg.lst vr), (L + 1 + 1 + 1 + 1 + 1, o5), (L + 1 + 1 + 1 + 1, o4), (L + 1 + 1 + 1, o3), (L + 1 + 1, o2), (L + 1, o1), (70, tabObj tab), (xa, xo), (I, it)])
    (d1 : o1.data = .cell (some (.int size t1))) (d2 : o2.data = .cell (some (.int step t2))) (d3 : o3.data = .cell (some (.int (k : Int) t3))) (d4 : ∃ v, o4.data = .cell v)
    (hg : Good size step) (hk : k < 5) (hi : IntsAre vp (places size step k)) (hpr : ∀ x ∈ places size step k, 0 ≤ x ∧ x < 64) (hpl : (places size step k).length ≤ 5)
    (hcnt : ((places size step k).length : Int) = if size.fdiv (Int.gcd size step) < (k : Int) + 1 then size.fdiv (Int.gcd size step) else (k : Int) + 1)
    (lr : @LT.lt Nat _ (L + 1 + 1 + 1 + 1 + 1) ra) (lp : @LT.lt Nat _ ra pa) (lx : xa ≠ L + 1 + 1 + 1 + 1) (lI : I ≠ L + 1 + 1 + 1 + 1)
    (next : ∀ da vd o4' h tk, Fr h₀ L h (fun z => if z = Str.ofString "places" then some (.ref pa) else if z = Str.ofString "rows" then some (.ref ra) else if z = Str.ofString "measure" then some (.int (Int.gcd size step) tm) else m z) →
      News h₀ L h [(da, LCg.lst vd), (ra, LCg.lst vr), (L + 1 + 1 + 1 + 1 + 1, o5), (L + 1 + 1 + 1 + 1, o4'), (L + 1 + 1 + 1, o3), (L + 1 + 1, o2), (L + 1, o1), (70, tabObj tab), (xa, xo), (I, it)] →
      o4'.data = .cell (some (.ref da)) → (@Ne Nat 70 da ∧ @Ne Nat ra da) → StrsAre vd ((places size step k).map fun x => stairs x size step k) →
      Goes w (callerA.deeper (env0 L fa)) (bodyF.drop 4) (env0 L fa) Q E { s with heap := h, toks := tk }) :
    Goes w (callerA.deeper (env0 L fa)) (bodyF.drop 2) (env0 L fa) Q E s := by
  refine ⟨?_⟩
  have hs0 : 0 < size := by rcases hg with h | h | h <;> omega
  have hs1 : size ≤ 32 := by rcases hg with h | h | h <;> omega
  have hp0 : 0 ≤ step := by rcases hg with h | h | h <;> omega
  have hp1 : step ≤ 32 := by rcases hg with h | h | h <;> omega
  obtain ⟨v4, d4⟩ := d4
  have l0' : @LT.lt Nat _ 70 L := l0
  revert X
  k_fill
  intro X
  revert next
  unfold env0
  rw [show bodyF.drop 2 = [_, _, _, _] from rfl]
  rw [show lawScope = ⟨_, _, _, _, _⟩ from rfl]
  intro next
  (repeat' (first | (k_unfold; (try dsimp only)) | (k_end; kc_close) | ((fail_if_success (first | (with_reducible show wpAny _ _ (pyIter _) _ _ _) | (with_reducible show wpAny _ _ (call (Value.ref _) _) _ _ _) | (with_reducible show LCg.CompSrc _ _ _ _ _ _ _ _ _ _ _ _ _ _) | (with_reducible show wpAny _ _ (exec (Stmt.While _ _ _ _) _) _ _ _) | (with_reducible show wpAny _ _ (exec (Stmt.For _ _ _ _ _) _) _ _ _) | (with_reducible show wpAny _ _ (execs [_, _] _) _ _ _))); walk1) | ((fail_if_success (first | (with_reducible show wpAny _ _ (pyIter _) _ _ _) | (with_reducible show wpAny _ _ (call (Value.ref _) _) _ _ _) | (with_reducible show LCg.CompSrc _ _ _ _ _ _ _ _ _ _ _ _ _ _) | (with_reducible show wpAny _ _ (exec (Stmt.While _ _ _ _) _) _ _ _) | (with_reducible show wpAny _ _ (exec (Stmt.For _ _ _ _ _) _) _ _ _) | (with_reducible show wpAny _ _ (execs [_, _] _) _ _ _))); dsimp only; walk1) | (leave1; walk_say "STEP leave1"; (try dsimp only)) | fail "no step"))
  rename Fr _ _ _ _ => F4
  rename News _ _ _ _ => N4
  have hvl := IntsAre.length hi
  refine LCg.CompSrc.ledger rfl F4 N4 (.head _) (by rw [List.size_toArray, sizeLine_eq]; omega) ?_
  intro g'
  refine kct_list (fun x => stairs x size step k) hi (fun k' t' I' oI' C' oC' D' m' ys' h' tk' E' hmem hC hx F5 N5 off ne mk => ?_) ?_
  · have hkr := hpr _ hmem
    (repeat' (first | (k_unfold; (try dsimp only)) | (k_end; kc_close) | ((fail_if_success (first | (with_reducible show wpAny _ _ (pyIter _) _ _ _) | (with_reducible show wpAny _ _ (call (Value.ref _) _) _ _ _) | (with_reducible show LCg.CompSrc _ _ _ _ _ _ _ _ _ _ _ _ _ _) | (with_reducible show wpAny _ _ (exec (Stmt.While _ _ _ _) _) _ _ _) | (with_reducible show wpAny _ _ (exec (Stmt.For _ _ _ _ _) _) _ _ _) | (with_reducible show wpAny _ _ (execs [_, _] _) _ _ _))); walk1) | ((fail_if_success (first | (with_reducible show wpAny _ _ (pyIter _) _ _ _) | (with_reducible show wpAny _ _ (call (Value.ref _) _) _ _ _) | (with_reducible show LCg.CompSrc _ _ _ _ _ _ _ _ _ _ _ _ _ _) | (with_reducible show wpAny _ _ (exec (Stmt.While _ _ _ _) _) _ _ _) | (with_reducible show wpAny _ _ (exec (Stmt.For _ _ _ _ _) _) _ _ _) | (with_reducible show wpAny _ _ (execs [_, _] _) _ _ _))); dsimp only; walk1) | (leave1; walk_say "STEP leave1"; (try dsimp only)) | fail "no step"))
    rename Fr _ _ _ _ => F6
    rename News _ _ _ _ => N6
    k_dflt (refine' Claim.use (st_claim w _ _ _ _ _ _ _ _ _ (by omega) (by omega) (by omega) (by omega) (by omega) (by omega) (by omega) (by omega)) ?k1 ?k2 ?k3 ?k4 ?k5 ?kK ?kd ?ku ?_)
    (((case k1 => k_asm); (case k2 => k_asm); (case k3 => k_asm); (case k4 => k_asm); (case k5 => k_asm); (case kK => exact rfl); (case kd => ktr_room); (case ku => ktr_units); k_whole))
    intro tr hr tkr Fr5 Nr5
    clear F6 N6
    (repeat' (first | (k_unfold; (try dsimp only)) | (k_end; kc_close) | ((fail_if_success (first | (with_reducible show wpAny _ _ (pyIter _) _ _ _) | (with_reducible show wpAny _ _ (call (Value.ref _) _) _ _ _) | (with_reducible show LCg.CompSrc _ _ _ _ _ _ _ _ _ _ _ _ _ _) | (with_reducible show wpAny _ _ (exec (Stmt.While _ _ _ _) _) _ _ _) | (with_reducible show wpAny _ _ (exec (Stmt.For _ _ _ _ _) _) _ _ _) | (with_reducible show wpAny _ _ (execs [_, _] _) _ _ _))); walk1) | ((fail_if_success (first | (with_reducible show wpAny _ _ (pyIter _) _ _ _) | (with_reducible show wpAny _ _ (call (Value.ref _) _) _ _ _) | (with_reducible show LCg.CompSrc _ _ _ _ _ _ _ _ _ _ _ _ _ _) | (with_reducible show wpAny _ _ (exec (Stmt.While _ _ _ _) _) _ _ _) | (with_reducible show wpAny _ _ (exec (Stmt.For _ _ _ _ _) _) _ _ _) | (with_reducible show wpAny _ _ (execs [_, _] _) _ _ _))); dsimp only; walk1) | (leave1; walk_say "STEP leave1"; (try dsimp only)) | fail "no step"))
    exact LCg.CompEnd.intro Fr5 Nr5 _ (fun p hp => hp) off (.inr ⟨_, .head _, rfl, _, rfl⟩) ⟨rfl, _, rfl⟩
  · intro ys hc hl
    have hys : StrsAre ys ((places size step k).map fun x => stairs x size step k) := strs_of_carried (by rw [List.map_map]; exact hc)
    have hyl := StrsAre.length hys
    rw [List.length_map] at hyl
    have hmg : 0 < (Int.gcd size step : Int) := by have := Int.gcd_pos_of_ne_zero_left step (by omega : size ≠ 0); omega
    have hml : (Int.gcd size step : Int) ≤ 32 := Int.le_trans (Int.le_of_dvd hs0 (Int.gcd_dvd_left ..)) hs1
    (repeat' (first | (k_unfold; (try dsimp only)) | (k_end; kc_close) | ((fail_if_success (first | (with_reducible show wpAny _ _ (pyIter _) _ _ _) | (with_reducible show wpAny _ _ (call (Value.ref _) _) _ _ _) | (with_reducible show LCg.CompSrc _ _ _ _ _ _ _ _ _ _ _ _ _ _) | (with_reducible show wpAny _ _ (exec (Stmt.While _ _ _ _) _) _ _ _) | (with_reducible show wpAny _ _ (exec (Stmt.For _ _ _ _ _) _) _ _ _) | (with_reducible show wpAny _ _ (execs [_, _] _) _ _ _))); walk1) | ((fail_if_success (first | (with_reducible show wpAny _ _ (pyIter _) _ _ _) | (with_reducible show wpAny _ _ (call (Value.ref _) _) _ _ _) | (with_reducible show LCg.CompSrc _ _ _ _ _ _ _ _ _ _ _ _ _ _) | (with_reducible show wpAny _ _ (exec (Stmt.While _ _ _ _) _) _ _ _) | (with_reducible show wpAny _ _ (exec (Stmt.For _ _ _ _ _) _) _ _ _) | (with_reducible show wpAny _ _ (execs [_, _] _) _ _ _))); dsimp only; walk1) | (leave1; walk_say "STEP leave1"; (try dsimp only)) | fail "no step"))
    · exact absurd hcnt (by assumption)
    · rename Fr _ _ _ _ => F9
      rename News _ _ _ _ => N9
      rename (@Ne Nat pa _ ∧ _) => o7
      rename (_ = Data.cell (some (Value.ref _))) => d9
      (try dsimp only)
      with_reducible refine Goes.go ?_
      exact next _ ys _ _ _ F9 (fun q hq => N9 q (by
        rcases List.mem_cons.mp hq with rfl | hq
        · exact .head _
        · exact .tail _ (.tail _ hq))) d9 ⟨o7.2.2.2.2.2.2.2.1, o7.2.1⟩ hys
end Mine
end
section
theorem Mine.fresh_T4L : True := by
  w_top off
  k_with_none
  trivial
open PySem PySem.W PyProof.Rows PySem.Calls PySem.Spec
namespace Mine
theorem slen_append (a b : Str) : (a ++ b).length = a.length + b.length := by
  show (a.cps ++ b.cps).size = a.cps.size + b.cps.size
  exact Array.size_append
noncomputable def lamE : Arguments × Expr × Scope × Pos := match bodyF.drop 4 with
  | .Assign _ (.Call _ [_, .Lambda a b s p] _ _) _ :: _ => (a, b, s, p)
  | _ => default
noncomputable def lamQ : Str := (Str.ofString "law" ++ ".<locals>." : Str) ++ "<lambda>"
noncomputable abbrev want3 (x : Str) : Str := Str.ofString "..." ++ x ++ Str.ofString "..."
set_option maxRecDepth 100000 in
set_option maxHeartbeats 400000 in
theorem lam_claim (w : World) (news : List (Addr × Obj)) (f c' L5 : Addr) (pm ctv : Value) (oc o5 : Obj) (vs : Array Value) (t t4 u : Tok) (word x : Str)
    (hf : (f, kla_obj "<lambda>" lamQ lamE.1 lamE.2.1 lamE.2.2.1 [(Str.ofString "word", L5)] pm c' ctv) ∈ news) (hc : (c', oc) ∈ news) (hd : oc.data = .fields vs) (hv : vs[1]? = some (.str lamQ t))
    (h5 : (L5, o5) ∈ news) (d5 : o5.data = .cell (some (.str word t4))) (hwl : word.length ≤ 32) (hxl : x.length ≤ 4)
    (hs : Txt.split (want3 x) (Str.ofString "...") = [Str.ofString "", x, Str.ofString ""]) (hin : (Builtin.Str.occurrences (want3 x) (Str.ofString "...") 0 (want3 x).length 1).isEmpty = false) :
    Claim 4 w f [.str x u] news (RetB news (elF x (word ++ word))) := by
  revert hf
  rw [show lamE = (_, _, _, _) from rfl]
  dsimp only
  intro hf
  unfold Claim
  k_fill
  intro p loose mean mg mb dp un gd cn cs a ccd cl outer A₀ base h₀ L m s Q E B F X N T hk hd' hu hret
  refine wpAny_call ?_
  k_dflt (refine' kla_code (binds := [(Str.ofString "row", .str x u)]) ?k1 ?k2 ?k3 ?k4 ?k5 ?kA ?kF ?kK ?k6 ?k7 ?k8 ?k9 ?kB ?_ ?c2 ?c3 ?c4 ?c5; (case kA => exact rfl); (case kF => exact rfl); (case kK => assumption); (case k1 => k_asm); (case k2 => k_asm); (case k3 => k_asm); (case k4 => k_asm); (case k5 => k_asm); (case k6 => assumption); (case k7 => exact codeRec_news (by k_asm) (by assumption) (by assumption) (by assumption)); (case k8 => ktr_room); (case k9 => with_unfolding_all rfl); (case c5 => decide); (case kB => exact locs rfl); (case c2 => exact rfl); (case c3 => exact rfl); (case c4 => exact rfl); k_whole; intro g' L' h' FG' F' N' B' X' T'; (try dsimp only); (try k_lift B'); (try k_fold))
  (repeat' (first | (k_unfold; (try dsimp only)) | (k_end; kc_close) | ((fail_if_success (first | (with_reducible show wpAny _ _ (pyIter _) _ _ _) | (with_reducible show wpAny _ _ (call (Value.ref _) _) _ _ _) | (with_reducible show LCg.CompSrc _ _ _ _ _ _ _ _ _ _ _ _ _ _) | (with_reducible show wpAny _ _ (exec (Stmt.While _ _ _ _) _) _ _ _) | (with_reducible show wpAny _ _ (exec (Stmt.For _ _ _ _ _) _) _ _ _) | (with_reducible show wpAny _ _ (eval (Expr.BinOp (Expr.Name _ _) _ _ _) _) _ _ _))); walk1) | ((fail_if_success (first | (with_reducible show wpAny _ _ (pyIter _) _ _ _) | (with_reducible show wpAny _ _ (call (Value.ref _) _) _ _ _) | (with_reducible show LCg.CompSrc _ _ _ _ _ _ _ _ _ _ _ _ _ _) | (with_reducible show wpAny _ _ (exec (Stmt.While _ _ _ _) _) _ _ _) | (with_reducible show wpAny _ _ (exec (Stmt.For _ _ _ _ _) _) _ _ _) | (with_reducible show wpAny _ _ (eval (Expr.BinOp (Expr.Name _ _) _ _ _) _) _ _ _))); dsimp only; walk1) | (leave1; walk_say "STEP leave1"; (try dsimp only)) | fail "no step"))
  refine wpAny_BinOp ?_
  refine nameX_F N' (c := L5) rfl h5 d5 ?_ rfl rfl (by decide) (by decide)
  refine nameX_F N' (c := L5) rfl h5 d5 ?_ rfl rfl (by decide) (by decide)
  (repeat' (first | (k_unfold; (try dsimp only)) | (k_end; kc_close) | ((fail_if_success (first | (with_reducible show wpAny _ _ (pyIter _) _ _ _) | (with_reducible show wpAny _ _ (call (Value.ref _) _) _ _ _) | (with_reducible show LCg.CompSrc _ _ _ _ _ _ _ _ _ _ _ _ _ _) | (with_reducible show wpAny _ _ (exec (Stmt.While _ _ _ _) _) _ _ _) | (with_reducible show wpAny _ _ (exec (Stmt.For _ _ _ _ _) _) _ _ _) | (with_reducible show wpAny _ _ (eval (Expr.BinOp (Expr.Name _ _) _ _ _) _) _ _ _))); walk1) | ((fail_if_success (first | (with_reducible show wpAny _ _ (pyIter _) _ _ _) | (with_reducible show wpAny _ _ (call (Value.ref _) _) _ _ _) | (with_reducible show LCg.CompSrc _ _ _ _ _ _ _ _ _ _ _ _ _ _) | (with_reducible show wpAny _ _ (exec (Stmt.While _ _ _ _) _) _ _ _) | (with_reducible show wpAny _ _ (exec (Stmt.For _ _ _ _ _) _) _ _ _) | (with_reducible show wpAny _ _ (eval (Expr.BinOp (Expr.Name _ _) _ _ _) _) _ _ _))); dsimp only; walk1) | (leave1; walk_say "STEP leave1"; (try dsimp only)) | fail "no step"))
  rename Fr _ _ _ _ => F1
  rename News _ _ _ _ => N1
  have hwl2 : (want3 x).length ≤ 64 := by
    show (Str.ofString "..." ++ x ++ Str.ofString "...").length ≤ 64
    rw [slen_append, slen_append]
    have : (Str.ofString "...").length = 3 := by decide +kernel
    omega
  have hgl2 : (word ++ word).length ≤ 64 := by rw [slen_append]; omega
  k_dflt (refine' Claim.use (el_claim w news (want3 x) x (word ++ word) _ _ hs (by omega) hwl2 hgl2 hin) ?k1 ?k2 ?k3 ?k4 ?k5 ?kK ?kd ?ku ?_)
  (((case k1 => k_asm); (case k2 => k_asm); (case k3 => k_asm); (case k4 => k_asm); (case k5 => k_asm); (case kK => exact rfl); (case kd => ktr_room); (case ku => ktr_units); k_whole))
  intro h6 tk6 F6 N6
  (repeat' (first | (k_unfold; (try dsimp only)) | (k_end; kc_close) | ((fail_if_success (first | (with_reducible show wpAny _ _ (pyIter _) _ _ _) | (with_reducible show wpAny _ _ (call (Value.ref _) _) _ _ _) | (with_reducible show LCg.CompSrc _ _ _ _ _ _ _ _ _ _ _ _ _ _) | (with_reducible show wpAny _ _ (exec (Stmt.While _ _ _ _) _) _ _ _) | (with_reducible show wpAny _ _ (exec (Stmt.For _ _ _ _ _) _) _ _ _) | (with_reducible show wpAny _ _ (eval (Expr.BinOp (Expr.Name _ _) _ _ _) _) _ _ _))); walk1) | ((fail_if_success (first | (with_reducible show wpAny _ _ (pyIter _) _ _ _) | (with_reducible show wpAny _ _ (call (Value.ref _) _) _ _ _) | (with_reducible show LCg.CompSrc _ _ _ _ _ _ _ _ _ _ _ _ _ _) | (with_reducible show wpAny _ _ (exec (Stmt.While _ _ _ _) _) _ _ _) | (with_reducible show wpAny _ _ (exec (Stmt.For _ _ _ _ _) _) _ _ _) | (with_reducible show wpAny _ _ (eval (Expr.BinOp (Expr.Name _ _) _ _ _) _) _ _ _))); dsimp only; walk1) | (leave1; walk_say "STEP leave1"; (try dsimp only)) | fail "no step"))
  rename Fr _ _ _ _ => kF
  rename News _ _ _ _ => kN
  exact hret _ _ kF kN
end Mine
end
section
theorem Mine.fresh_T4C : True := by
  w_top off
  k_with_none
  trivial
open PySem PySem.W PyProof.Rows PySem.Calls PySem.Spec
namespace Mine
noncomputable abbrev tabOf (c : Addr) : Array Value := #[rawInt lamE.2.2.2.line, rawInt lamE.2.2.2.col, .ref c]
noncomputable def TabSt (tab : Array Value) (xa : Addr) (xo : Obj) : Prop := tab = #[] ∨ (tab = tabOf xa ∧ ∃ vs t, xo.data = .fields vs ∧ vs[1]? = some (.str lamQ t))
noncomputable abbrev lamO (L : Addr) (pm : Value) (c' : Addr) (ctv : Value) : Obj := kla_obj "<lambda>" lamQ lamE.1 lamE.2.1 lamE.2.2.1 [(Str.ofString "word", L + 1 + 1 + 1 + 1 + 1)] pm c' ctv
set_option maxRecDepth 100000 in
theorem lam_K {M : Model} {A : Around} {E : Value → Shared → Prop} {Q : Value → Shared → Prop} {s : Shared} {h₀ : Heap} {L fa da ra xa I : Addr} {m mg mb : Str → Option Value} {p : Program} {loose : List Str} {mean : ExcName → Option Value} {vd vr : List Value} {o1 o2 o3 o4 o5 xo it : Obj} {tab : Array Value}
    (F : Fr h₀ L s.heap m) (T : Top p loose mean mg mb h₀) (C : CodeHd h₀ 72 70)
    (N : News h₀ L s.heap [(da, LCg.lst vd), (ra, LCg.lst vr), (L + 1 + 1 + 1 + 1 + 1, o5), (L + 1 + 1 + 1 + 1, o4), (L + 1 + 1 + 1, o3), (L + 1 + 1, o2), (L + 1, o1), (70, tabObj tab), (xa, xo), (I, it)])
    (hd : @Ne Nat 70 da) (hr : @Ne Nat 70 ra) (hx : @Ne Nat 70 xa) (hI : @Ne Nat 70 I) (l0 : @LT.lt Nat _ 70 L) (ht : TabSt tab xa xo)
    (h : ∀ f c' oc vs t ctv h' tk, Fr h₀ L h' m → News h₀ L h' [(f, lamO L ((mg "__name__").getD .none) c' ctv), (da, LCg.lst vd), (ra, LCg.lst vr), (L + 1 + 1 + 1 + 1 + 1, o5), (L + 1 + 1 + 1 + 1, o4), (L + 1 + 1 + 1, o3), (L + 1 + 1, o2), (L + 1, o1), (70, tabObj (tabOf c')), (c', oc), (I, it)] →
      oc.data = .fields vs → vs[1]? = some (.str lamQ t) → @Ne Nat 70 c' → ((@LT.lt Nat _ (L + 1 + 1 + 1 + 1 + 1) c' ∧ @LT.lt Nat _ I c') ∨ c' = xa) → (@LT.lt Nat _ I f ∧ @LT.lt Nat _ ra f ∧ @LT.lt Nat _ da f ∧ @LT.lt Nat _ c' f) → Q (.ref f) { s with heap := h', toks := tk }) :
    wpAny M A (eval (.Lambda lamE.1 lamE.2.1 lamE.2.2.1 lamE.2.2.2) (env0 L fa)) Q E s := by
  refine kla_eval (by rfl) ?_
  rcases ht with rfl | ⟨rfl, vs, t, hv1, hv2⟩
  · have e1 : @Ne Nat (L + 1 + 1 + 1 + 1 + 1) 70 := by refine neN ?_; omega
    have e2 : @Ne Nat (L + 1 + 1 + 1 + 1) 70 := by refine neN ?_; omega
    have e3 : @Ne Nat (L + 1 + 1 + 1) 70 := by refine neN ?_; omega
    have e4 : @Ne Nat (L + 1 + 1) 70 := by refine neN ?_; omega
    have e5 : @Ne Nat (L + 1) 70 := by refine neN ?_; omega
    refine kla_nest (cn := Str.ofString "law") (cs := lawScope) (cl := cellsFrom (L + 1) lawScope.names []) (clos := [(Str.ofString "word", L + 1 + 1 + 1 + 1 + 1)]) F N T C rfl
      (.tail (Ne.symm hd) (.tail (Ne.symm hr) (.tail e1 (.tail e2 (.tail e3 (.tail e4 (.tail e5 (.head (fun q hq => ?_))))))))) ?_ ?_ ?_ (fun f c' oc vs t ctv h' tk F' N' hd' hv' hc hlt => ?_)
    · simp only [List.mem_cons, List.not_mem_nil, or_false] at hq
      rcases hq with rfl | rfl
      · exact Ne.symm hx
      · exact Ne.symm hI
    · kn_triples
    · kn_among
    · rfl
    · have hcI := hc (I, it) (by simp)
      have hcr := hc (ra, LCg.lst vr) (by simp)
      have hcd := hc (da, LCg.lst vd) (by simp)
      have hcL := hc (L + 1 + 1 + 1 + 1 + 1, o5) (by simp)
      have hc70 := hc (70, tabObj #[]) (by simp)
      refine h f c' oc vs t ctv h' tk F' (fun q hq => N' q ?_) hd' hv' (Nat.ne_of_lt hc70) (.inl ⟨hcL, hcI⟩) ⟨Nat.lt_trans hcI hlt, Nat.lt_trans hcr hlt, Nat.lt_trans hcd hlt, hlt⟩
      simp only [List.mem_cons, List.not_mem_nil, or_false] at hq
      rcases hq with rfl | rfl | rfl | rfl | rfl | rfl | rfl | rfl | rfl | rfl | rfl
      · exact .head _
      · exact .tail _ (.tail _ (.head _))
      · exact .tail _ (.tail _ (.tail _ (.head _)))
      · exact .tail _ (.tail _ (.tail _ (.tail _ (.head _))))
      · exact .tail _ (.tail _ (.tail _ (.tail _ (.tail _ (.head _)))))
      · exact .tail _ (.tail _ (.tail _ (.tail _ (.tail _ (.tail _ (.head _))))))
      · exact .tail _ (.tail _ (.tail _ (.tail _ (.tail _ (.tail _ (.tail _ (.head _)))))))
      · exact .tail _ (.tail _ (.tail _ (.tail _ (.tail _ (.tail _ (.tail _ (.tail _ (.head _))))))))
      · exact .tail _ (.tail _ (.tail _ (.tail _ (.tail _ (.tail _ (.tail _ (.tail _ (.tail _ (.head _)))))))))
      · exact .tail _ (.head _)
      · exact .tail _ (.tail _ (.tail _ (.tail _ (.tail _ (.tail _ (.tail _ (.tail _ (.tail _ (.tail _ (.tail _ (.head _)))))))))))
  · refine kla_hit (cn := Str.ofString "law") (cs := lawScope) (cl := cellsFrom (L + 1) lawScope.names []) (clos := [(Str.ofString "word", L + 1 + 1 + 1 + 1 + 1)]) (c' := xa) F N T C rfl (.tail _ (.tail _ (.tail _ (.tail _ (.tail _ (.tail _ (.tail _ (.head _)))))))) ?_ ?_ ?_ (fun f ctv h' tk F' N' hc => ?_)
    · kn_triples
    · kn_hit
    · rfl
    · exact h f xa xo vs t ctv h' tk F' N' hv1 hv2 hx (.inr rfl) ⟨hc (I, it) (by simp), hc (ra, LCg.lst vr) (by simp), hc (da, LCg.lst vd) (by simp), hc (xa, xo) (by simp)⟩
end Mine
end
section
theorem Mine.fresh_T4D : True := by
  w_top off
  k_with_none
  trivial
open PySem PySem.W PyProof.Rows PySem.Calls PySem.Spec
namespace Mine
/-- a word of the rows: the two facts that the call of _ellipsis_match asks -/
structure RowOk (x : Str) : Prop where
  len : x.length ≤ 4
  split : Txt.split (want3 x) (Str.ofString "...") = [Str.ofString "", x, Str.ofString ""]
  occ : (Builtin.Str.occurrences (want3 x) (Str.ofString "...") 0 (want3 x).length 1).isEmpty = false
set_option maxRecDepth 100000 in
set_option maxHeartbeats 4000000 in
theorem turnC (w : World) (p : Program) (loose : List Str) (mean : ExcName → Option Value) (mg mb : Str → Option Value) (L fa : Addr) (h₀ : Heap) (m : Str → Option Value) (s : Shared) (Q : Flow → Shared → Prop) (E : Value → Shared → Prop)
    (word : Str) (t5 : Tok) (o1 o2 o3 o4 o5 : Obj) (ra da : Addr) (vr vd : List Value) (rs : List Str) (tab : Array Value) (xa I : Addr) (xo it : Obj)
    (B : Below callerA h₀ [] h₀) (X : (Mine.hd.heap_39 w.params).In h₀) (T : Top p loose mean mg mb h₀) (cd : CodeHd h₀ 72 70) (l0 : 70 < L)
    (F : Fr h₀ L s.heap (fun z => if z = Str.ofString "rows" then some (.ref ra) else m z))
    (N : News h₀ L s.heap [(da, LCg.lst vd), (ra, LCg.lst vr), (L + 1 + 1 + 1 + 1 + 1, o5), (L + 1 + 1 + 1 + 1, o4), (L + 1 + 1 + 1, o3), (L + 1 + 1, o2), (L + 1, o1), (70, tabObj tab), (xa, xo), (I, it)])
    (d5 : o5.data = .cell (some (.str word t5))) (hwl : word.length ≤ 32)
    (hda : @Ne Nat 70 da) (hra : @Ne Nat 70 ra) (hxa : @Ne Nat 70 xa) (hIa : @Ne Nat 70 I) (ht : TabSt tab xa xo)
    (hv : StrsAre vr rs) (hrl : rs.length ≤ 16) (hro : ∀ x ∈ rs, RowOk x)
    (next : ∀ a ya na vy vn cy cn c' oc h tk, Fr h₀ L h (fun z => if z = Str.ofString "found" then some (.ref a) else if z = Str.ofString "rows" then some (.ref ra) else m z) →
      News h₀ L h [(a, tupOf #[.ref ya, .ref na]), (na, W.listOf vn.toArray cn), (ya, W.listOf vy.toArray cy), (da, LCg.lst vd), (ra, LCg.lst vr), (L + 1 + 1 + 1 + 1 + 1, o5), (L + 1 + 1 + 1 + 1, o4), (L + 1 + 1 + 1, o3), (L + 1 + 1, o2), (L + 1, o1), (70, tabObj (tabOf c')), (c', oc), (I, it)] →
      TabSt (tabOf c') c' oc → @Ne Nat 70 c' → ((@LT.lt Nat _ (L + 1 + 1 + 1 + 1 + 1) c' ∧ @LT.lt Nat _ I c') ∨ c' = xa) → (@LT.lt Nat _ I ya ∧ @LT.lt Nat _ c' ya) →
      StrsAre vy (rs.filter fun x => elF x (word ++ word)) → StrsAre vn (rs.filter fun x => !elF x (word ++ word)) →
      Goes w (callerA.deeper (env0 L fa)) (bodyF.drop 5) (env0 L fa) Q E { s with heap := h, toks := tk }) :
    Goes w (callerA.deeper (env0 L fa)) (bodyF.drop 4) (env0 L fa) Q E s := by
  refine ⟨?_⟩
  have l0' : @LT.lt Nat _ 70 L := l0
  revert X
  k_fill
  intro X
  revert next
  unfold env0
  rw [show bodyF.drop 4 = [_, _] from rfl]
  rw [show lawScope = ⟨_, _, _, _, _⟩ from rfl]
  intro next
  (repeat' (first | (k_unfold; (try dsimp only)) | (k_end; kc_close) | ((fail_if_success (first | (with_reducible show wpAny _ _ (pyIter _) _ _ _) | (with_reducible show wpAny _ _ (call (Value.ref _) _) _ _ _) | (with_reducible show LCg.CompSrc _ _ _ _ _ _ _ _ _ _ _ _ _ _) | (with_reducible show wpAny _ _ (exec (Stmt.While _ _ _ _) _) _ _ _) | (with_reducible show wpAny _ _ (exec (Stmt.For _ _ _ _ _) _) _ _ _) | (with_reducible show wpAny _ _ (execs [_] _) _ _ _) | (with_reducible show wpAny _ _ (eval (Expr.Lambda _ _ _ _) _) _ _ _))); walk1) | ((fail_if_success (first | (with_reducible show wpAny _ _ (pyIter _) _ _ _) | (with_reducible show wpAny _ _ (call (Value.ref _) _) _ _ _) | (with_reducible show LCg.CompSrc _ _ _ _ _ _ _ _ _ _ _ _ _ _) | (with_reducible show wpAny _ _ (exec (Stmt.While _ _ _ _) _) _ _ _) | (with_reducible show wpAny _ _ (exec (Stmt.For _ _ _ _ _) _) _ _ _) | (with_reducible show wpAny _ _ (execs [_] _) _ _ _) | (with_reducible show wpAny _ _ (eval (Expr.Lambda _ _ _ _) _) _ _ _))); dsimp only; walk1) | (leave1; walk_say "STEP leave1"; (try dsimp only)) | fail "no step"))
  rename Fr _ _ _ _ => F1
  rename News _ _ _ _ => N1
  refine lam_K F1 T cd N1 hda hra hxa hIa l0' ht (fun f c' oc vs t ctv h2 tk2 F2 N2 hd2 hv2 n70 hc2 hlt2 => ?_)
  clear F1 N1
  (repeat' (first | (k_unfold; (try dsimp only)) | (k_end; kc_close) | ((fail_if_success (first | (with_reducible show wpAny _ _ (pyIter _) _ _ _) | (with_reducible show wpAny _ _ (call (Value.ref _) _) _ _ _) | (with_reducible show LCg.CompSrc _ _ _ _ _ _ _ _ _ _ _ _ _ _) | (with_reducible show wpAny _ _ (exec (Stmt.While _ _ _ _) _) _ _ _) | (with_reducible show wpAny _ _ (exec (Stmt.For _ _ _ _ _) _) _ _ _) | (with_reducible show wpAny _ _ (execs [_] _) _ _ _) | (with_reducible show wpAny _ _ (eval (Expr.Lambda _ _ _ _) _) _ _ _))); walk1) | ((fail_if_success (first | (with_reducible show wpAny _ _ (pyIter _) _ _ _) | (with_reducible show wpAny _ _ (call (Value.ref _) _) _ _ _) | (with_reducible show LCg.CompSrc _ _ _ _ _ _ _ _ _ _ _ _ _ _) | (with_reducible show wpAny _ _ (exec (Stmt.While _ _ _ _) _) _ _ _) | (with_reducible show wpAny _ _ (exec (Stmt.For _ _ _ _ _) _) _ _ _) | (with_reducible show wpAny _ _ (execs [_] _) _ _ _) | (with_reducible show wpAny _ _ (eval (Expr.Lambda _ _ _ _) _) _ _ _))); dsimp only; walk1) | (leave1; walk_say "STEP leave1"; (try dsimp only)) | fail "no step"))
  rename Fr _ _ _ _ => F3
  rename News _ _ _ _ => N3
  have hC := sp_claim w [(f, lamO L ((mg "__name__").getD .none) c' ctv), (da, LCg.lst vd), (ra, LCg.lst vr), (L + 1 + 1 + 1 + 1 + 1, o5), (L + 1 + 1 + 1 + 1, o4), (L + 1 + 1 + 1, o3), (L + 1 + 1, o2), (L + 1, o1), (70, tabObj (tabOf c')), (c', oc), (I, it)] ra f vr vr.length rs (fun x => elF x (word ++ word)) _ _ _ _ _ _ _ _ _ (List.Mem.head _) (.tail _ (.tail _ (.head _))) hv (by omega)
    (fun nw hsub x hx u => lam_claim w nw f c' (L + 1 + 1 + 1 + 1 + 1) ((mg "__name__").getD .none) ctv oc o5 vs t t5 u word x (hsub (f, _) (.head _)) (hsub (c', oc) (.tail _ (.tail _ (.tail _ (.tail _ (.tail _ (.tail _ (.tail _ (.tail _ (.tail _ (.head _))))))))))) hd2 hv2 (hsub (L + 1 + 1 + 1 + 1 + 1, o5) (.tail _ (.tail _ (.tail _ (.head _))))) d5 hwl (hro x hx).len (hro x hx).split (hro x hx).occ)
  k_dflt (refine' Claim.use hC ?k1 ?k2 ?k3 ?k4 ?k5 ?kK ?kd ?ku ?_)
  (((case k1 => k_asm); (case k2 => k_asm); (case k3 => k_asm); (case k4 => k_asm); (case k5 => k_asm); (case kK => exact rfl); (case kd => ktr_room); (case ku => ktr_units); k_whole))
  intro a ya na vy vn cy cn h5 tk5 F5 N5 l5 l6 l7 hvy hvn
  clear F3 N3 hC
  (repeat' (first | (k_unfold; (try dsimp only)) | (k_end; kc_close) | ((fail_if_success (first | (with_reducible show wpAny _ _ (pyIter _) _ _ _) | (with_reducible show wpAny _ _ (call (Value.ref _) _) _ _ _) | (with_reducible show LCg.CompSrc _ _ _ _ _ _ _ _ _ _ _ _ _ _) | (with_reducible show wpAny _ _ (exec (Stmt.While _ _ _ _) _) _ _ _) | (with_reducible show wpAny _ _ (exec (Stmt.For _ _ _ _ _) _) _ _ _) | (with_reducible show wpAny _ _ (execs [_] _) _ _ _) | (with_reducible show wpAny _ _ (eval (Expr.Lambda _ _ _ _) _) _ _ _))); walk1) | ((fail_if_success (first | (with_reducible show wpAny _ _ (pyIter _) _ _ _) | (with_reducible show wpAny _ _ (call (Value.ref _) _) _ _ _) | (with_reducible show LCg.CompSrc _ _ _ _ _ _ _ _ _ _ _ _ _ _) | (with_reducible show wpAny _ _ (exec (Stmt.While _ _ _ _) _) _ _ _) | (with_reducible show wpAny _ _ (exec (Stmt.For _ _ _ _ _) _) _ _ _) | (with_reducible show wpAny _ _ (execs [_] _) _ _ _) | (with_reducible show wpAny _ _ (eval (Expr.Lambda _ _ _ _) _) _ _ _))); dsimp only; walk1) | (leave1; walk_say "STEP leave1"; (try dsimp only)) | fail "no step"))
  rename Fr _ _ _ _ => F6
  rename News _ _ _ _ => N6
  (try dsimp only)
  with_reducible refine Goes.go ?_
  exact next a ya na vy vn cy cn c' oc _ _ F6 (fun q hq => N6 q (by
    rcases List.mem_cons.mp hq with rfl | hq
    · exact .head _
    rcases List.mem_cons.mp hq with rfl | hq
    · exact .tail _ (.head _)
    rcases List.mem_cons.mp hq with rfl | hq
    · exact .tail _ (.tail _ (.head _))
    exact .tail _ (.tail _ (.tail _ (.tail _ hq))))) (.inr ⟨rfl, vs, t, hd2, hv2⟩) n70 hc2 ⟨l5 (I, it) (by simp), l5 (c', oc) (by simp)⟩ hvy hvn
end Mine
end
section
theorem Mine.fresh_T4E : True := by
  w_top off
  k_with_none
  trivial
open PySem PySem.W PyProof.Rows PySem.Calls PySem.Spec
namespace Mine
theorem canLay_strs : ∀ l : List Str, (∀ x ∈ l, PyData.strOk x = true) → PyData.canLayAll0 (l.map PyData.str) = true
  | [], _ => rfl
  | x :: l, h => by
    rw [List.map_cons]
    simp only [PyData.canLayAll0, PyData.canLay0, h x (.head _), canLay_strs l (fun y hy => h y (.tail _ hy)), Bool.and_true]
theorem depth_strs : ∀ l : List Str, PyData.depthAll (l.map PyData.str) = 0
  | [] => rfl
  | x :: l => by
    rw [List.map_cons]
    simp only [PyData.depthAll, PyData.depth, depth_strs l]
    rfl
theorem shaped_two (a b : List Str) (ha : ∀ x ∈ a, PyData.strOk x = true) (hb : ∀ x ∈ b, PyData.strOk x = true) : PySem.SeqAt.shaped (.tuple [.list (a.map PyData.str), .list (b.map PyData.str)]) = true := by
  simp [SeqAt.shaped, PyData.canLay0, PyData.canLayAll0, PyData.depth, PyData.depthAll, canLay_strs a ha, canLay_strs b hb, depth_strs]
section
variable {prog : Program} {w : World} {A : Around} {h₀ : Heap} {L : Addr} {m : Str → Option Value} {env : Env} {ct elt : Expr} {x : Str} {scope : Scope} {cl : List (Str × Addr)} {s : Shared} {S : List (Addr × Obj) → Prop} {Fin : List Value → List (Addr × Obj) → Prop} {news : List (Addr × Obj)}
theorem restT {vs : List Value} {ss : List Str} (q : Str → Bool) (hv : StrsAre vs ss)
    (turn : ∀ y t I oI C oC D m₂ ys h tk (E' : Value → Shared → Prop), y ∈ ss → LCg.NsObj oC m₂ → m₂ x = some (.str y t) → Fr h₀ L h m → News h₀ L h ((I, oI) :: (C, oC) :: (D, LCg.lst ys) :: news) → LCg.Off3 I C D news → ((@Ne Nat I C) ∧ (@Ne Nat I D) ∧ (@Ne Nat C D)) →
      wpAny (model prog w) A (isTrue ct (compEnvC scope cl C env) (eval ct (compEnvC scope cl C env))) (fun ok s' => if ok = true then
        wpAny (model prog w) A (eval elt (compEnvC scope cl C env)) (LCg.CompEnd h₀ L m { s with heap := h, toks := tk } I oI C oC D (LCg.lst ys) S (fun y' news' => news' = news ∧ q y = true ∧ ∃ t, y' = .str y t)) E' s'
        else LCg.CompEnd h₀ L m { s with heap := h, toks := tk } I oI C oC D (LCg.lst ys) S (fun _ news' => news' = news ∧ q y = false) Value.none s') E' { s with heap := h, toks := tk })
    (fin : ∀ ys, StrsAre ys (ss.filter q) → Fin ys news) :
    LCt.CompRestT prog w A h₀ L m env ct elt x scope cl s S (fun i v => vs.toArray[i]? = some v) Fin vs.toArray.size 0 [] news := by
  have hlen := StrsAre.length hv
  have key : ∀ (j i : Nat) (ys : List Value), i + j = ss.length → StrsAre ys ((ss.take i).filter q) → LCt.CompRestT prog w A h₀ L m env ct elt x scope cl s S (fun i v => vs.toArray[i]? = some v) Fin j i ys news := by
    intro j
    induction j with
    | zero =>
      intro i ys hi hy
      have e : i = ss.length := by omega
      subst e
      rw [List.take_length] at hy
      exact LCt.CompRestT.zero (fin ys hy)
    | succ j ih =>
      intro i ys hi hy
      refine LCt.CompRestT.succ ?_
      intro v I oI C oC D m₂ h tk E' hv1 hC hx F N off ne
      obtain ⟨y, t, hk, rfl⟩ := strs_at hv i v (by simpa using hv1)
      refine wpAny_mono (turn y t I oI C oC D m₂ ys h tk E' (List.mem_of_getElem? hk) hC hx F N off ne) (fun ok s₂ hq => ?_) fun _ _ e => e
      have htk : ss.take (i + 1) = ss.take i ++ [y] := by rw [List.take_add_one, hk]; rfl
      cases ok with
      | true =>
        rw [if_pos rfl] at hq ⊢
        refine wpAny_mono hq (fun y' s₃ h₃ => ?_) fun _ _ e => e
        obtain ⟨h', tk', nw, e, F', N', off', hS, rfl, hqy, t', rfl⟩ := h₃
        refine ⟨h', tk', nw, e, F', N', off', hS, ih (i + 1) _ (by omega) ?_⟩
        rw [htk, List.filter_append]
        simp only [List.filter_cons, hqy, if_true, List.filter_nil]
        exact StrsAre.append' hy (.cons _ _ .nil)
      | false =>
        rw [if_neg (by simp)] at hq ⊢
        obtain ⟨h', tk', nw, e, F', N', off', hS, rfl, hqy⟩ := hq
        refine ⟨h', tk', nw, e, F', N', off', hS, ih (i + 1) _ (by omega) ?_⟩
        rw [htk, List.filter_append]
        simp only [List.filter_cons, hqy, Bool.false_eq_true, if_false, List.filter_nil, List.append_nil]
        exact hy
  rw [List.size_toArray, hlen]
  exact key _ 0 [] (by omega) .nil
end
set_option maxRecDepth 100000 in
set_option maxHeartbeats 1000000 in
theorem turnD (w : World) (p : Program) (loose : List Str) (mean : ExcName → Option Value) (mg mb : Str → Option Value) (L fa : Addr) (h₀ : Heap) (m : Str → Option Value) (s : Shared) (Q : Flow → Shared → Prop) (E : Value → Shared → Prop)
    (o1 o2 o3 o4 o5 : Obj) (ra da a ya na : Addr) (vr vd vy vn : List Value) (cy cn : Nat) (rs ds : List Str) (p0 : Str → Bool) (tab : Array Value) (xa I : Addr) (xo it : Obj)
    (B : Below callerA h₀ [] h₀) (X : (Mine.hd.heap_39 w.params).In h₀) (T : Top p loose mean mg mb h₀) (cd : CodeHd h₀ 72 70) (l0 : 70 < L)
    (F : Fr h₀ L s.heap (fun z => if z = Str.ofString "found" then some (.ref a) else if z = Str.ofString "rows" then some (.ref ra) else m z))
    (N : News h₀ L s.heap [(a, tupOf #[.ref ya, .ref na]), (na, W.listOf vn.toArray cn), (ya, W.listOf vy.toArray cy), (da, LCg.lst vd), (ra, LCg.lst vr), (L + 1 + 1 + 1 + 1 + 1, o5), (L + 1 + 1 + 1 + 1, o4), (L + 1 + 1 + 1, o3), (L + 1 + 1, o2), (L + 1, o1), (70, tabObj tab), (xa, xo), (I, it)])
    (d4 : o4.data = .cell (some (.ref da)))
    (hv : StrsAre vr rs) (hrl : rs.length ≤ 16) (hvd : StrsAre vd ds) (hvy : StrsAre vy (rs.filter p0)) (hvn : StrsAre vn (rs.filter fun x => !p0 x))
    (heq : rs.filter p0 = ds) (hso : ∀ x ∈ rs, PyData.strOk x = true)
    (next : ∀ h tk, Fr h₀ L h (fun z => if z = Str.ofString "found" then some (.ref a) else if z = Str.ofString "rows" then some (.ref ra) else m z) →
      News h₀ L h [(a, tupOf #[.ref ya, .ref na]), (na, W.listOf vn.toArray cn), (ya, W.listOf vy.toArray cy), (da, LCg.lst vd), (ra, LCg.lst vr), (L + 1 + 1 + 1 + 1 + 1, o5), (L + 1 + 1 + 1 + 1, o4), (L + 1 + 1 + 1, o3), (L + 1 + 1, o2), (L + 1, o1), (70, tabObj tab), (xa, xo), (I, it)] →
      Q .next { s with heap := h, toks := tk }) :
    Goes w (callerA.deeper (env0 L fa)) (bodyF.drop 5) (env0 L fa) Q E s := by
  refine ⟨?_⟩
  have l0' : @LT.lt Nat _ 70 L := l0
  revert X
  k_fill
  intro X
  unfold env0
  rw [show bodyF.drop 5 = [_] from rfl]
  rw [show lawScope = ⟨_, _, _, _, _⟩ from rfl]
  (repeat' (first | (k_unfold; (try dsimp only)) | (k_end; kc_close) | ((fail_if_success (first | (with_reducible show wpAny _ _ (pyIter _) _ _ _) | (with_reducible show wpAny _ _ (call (Value.ref _) _) _ _ _) | (with_reducible show LCg.CompSrc _ _ _ _ _ _ _ _ _ _ _ _ _ _) | (with_reducible show LCg.CompSrcT _ _ _ _ _ _ _ _ _ _ _ _ _ _ _) | (with_reducible show wpAny _ _ (exec (Stmt.While _ _ _ _) _) _ _ _) | (with_reducible show wpAny _ _ (exec (Stmt.For _ _ _ _ _) _) _ _ _) | (with_reducible show wpAny _ _ (eval (Expr.ListComp _ _ _ _) _) _ _ _) | (with_reducible show wpAny _ _ (compareOp CmpOp.NotIn _ _) _ _ _) | (with_reducible show wpAny _ _ (compareOp CmpOp.NotEq (Value.ref _) (Value.ref _)) _ _ _))); walk1) | ((fail_if_success (first | (with_reducible show wpAny _ _ (pyIter _) _ _ _) | (with_reducible show wpAny _ _ (call (Value.ref _) _) _ _ _) | (with_reducible show LCg.CompSrc _ _ _ _ _ _ _ _ _ _ _ _ _ _) | (with_reducible show LCg.CompSrcT _ _ _ _ _ _ _ _ _ _ _ _ _ _ _) | (with_reducible show wpAny _ _ (exec (Stmt.While _ _ _ _) _) _ _ _) | (with_reducible show wpAny _ _ (exec (Stmt.For _ _ _ _ _) _) _ _ _) | (with_reducible show wpAny _ _ (eval (Expr.ListComp _ _ _ _) _) _ _ _) | (with_reducible show wpAny _ _ (compareOp CmpOp.NotIn _ _) _ _ _) | (with_reducible show wpAny _ _ (compareOp CmpOp.NotEq (Value.ref _) (Value.ref _)) _ _ _))); dsimp only; walk1) | (leave1; walk_say "STEP leave1"; (try dsimp only)) | fail "no step"))
  rename Fr _ _ _ _ => F1
  rename News _ _ _ _ => N1
  refine LCt.ListComp_T (cl := [(Str.ofString "due", L + 1 + 1 + 1 + 1)]) F1 rfl (by decide) rfl (by decide) rfl ?_
  (repeat' (first | (k_unfold; (try dsimp only)) | (k_end; kc_close) | ((fail_if_success (first | (with_reducible show wpAny _ _ (pyIter _) _ _ _) | (with_reducible show wpAny _ _ (call (Value.ref _) _) _ _ _) | (with_reducible show LCg.CompSrc _ _ _ _ _ _ _ _ _ _ _ _ _ _) | (with_reducible show LCg.CompSrcT _ _ _ _ _ _ _ _ _ _ _ _ _ _ _) | (with_reducible show wpAny _ _ (exec (Stmt.While _ _ _ _) _) _ _ _) | (with_reducible show wpAny _ _ (exec (Stmt.For _ _ _ _ _) _) _ _ _) | (with_reducible show wpAny _ _ (eval (Expr.ListComp _ _ _ _) _) _ _ _) | (with_reducible show wpAny _ _ (compareOp CmpOp.NotIn _ _) _ _ _) | (with_reducible show wpAny _ _ (compareOp CmpOp.NotEq (Value.ref _) (Value.ref _)) _ _ _))); walk1) | ((fail_if_success (first | (with_reducible show wpAny _ _ (pyIter _) _ _ _) | (with_reducible show wpAny _ _ (call (Value.ref _) _) _ _ _) | (with_reducible show LCg.CompSrc _ _ _ _ _ _ _ _ _ _ _ _ _ _) | (with_reducible show LCg.CompSrcT _ _ _ _ _ _ _ _ _ _ _ _ _ _ _) | (with_reducible show wpAny _ _ (exec (Stmt.While _ _ _ _) _) _ _ _) | (with_reducible show wpAny _ _ (exec (Stmt.For _ _ _ _ _) _) _ _ _) | (with_reducible show wpAny _ _ (eval (Expr.ListComp _ _ _ _) _) _ _ _) | (with_reducible show wpAny _ _ (compareOp CmpOp.NotIn _ _) _ _ _) | (with_reducible show wpAny _ _ (compareOp CmpOp.NotEq (Value.ref _) (Value.ref _)) _ _ _))); dsimp only; walk1) | (leave1; walk_say "STEP leave1"; (try dsimp only)) | fail "no step"))
  refine LCt.CompSrcT.ledger rfl F1 N1 (.tail _ (.tail _ (.tail _ (.tail _ (.head _))))) (by rw [List.size_toArray, StrsAre.length hv, sizeLine_eq]; omega) ?_
  intro g'
  refine restT (fun y => !(ds.any (· == y))) hv (fun y t I' oI C oC D m₂ ys h tk E' hmem hC hx F5 N5 off ne => ?_) (fun ys hys => ?_)
  · (repeat' (first | (k_unfold; (try dsimp only)) | (k_end; kc_close) | ((fail_if_success (first | (with_reducible show wpAny _ _ (pyIter _) _ _ _) | (with_reducible show wpAny _ _ (call (Value.ref _) _) _ _ _) | (with_reducible show LCg.CompSrc _ _ _ _ _ _ _ _ _ _ _ _ _ _) | (with_reducible show LCg.CompSrcT _ _ _ _ _ _ _ _ _ _ _ _ _ _ _) | (with_reducible show wpAny _ _ (exec (Stmt.While _ _ _ _) _) _ _ _) | (with_reducible show wpAny _ _ (exec (Stmt.For _ _ _ _ _) _) _ _ _) | (with_reducible show wpAny _ _ (eval (Expr.ListComp _ _ _ _) _) _ _ _) | (with_reducible show wpAny _ _ (compareOp CmpOp.NotIn _ _) _ _ _) | (with_reducible show wpAny _ _ (compareOp CmpOp.NotEq (Value.ref _) (Value.ref _)) _ _ _))); walk1) | ((fail_if_success (first | (with_reducible show wpAny _ _ (pyIter _) _ _ _) | (with_reducible show wpAny _ _ (call (Value.ref _) _) _ _ _) | (with_reducible show LCg.CompSrc _ _ _ _ _ _ _ _ _ _ _ _ _ _) | (with_reducible show LCg.CompSrcT _ _ _ _ _ _ _ _ _ _ _ _ _ _ _) | (with_reducible show wpAny _ _ (exec (Stmt.While _ _ _ _) _) _ _ _) | (with_reducible show wpAny _ _ (exec (Stmt.For _ _ _ _ _) _) _ _ _) | (with_reducible show wpAny _ _ (eval (Expr.ListComp _ _ _ _) _) _ _ _) | (with_reducible show wpAny _ _ (compareOp CmpOp.NotIn _ _) _ _ _) | (with_reducible show wpAny _ _ (compareOp CmpOp.NotEq (Value.ref _) (Value.ref _)) _ _ _))); dsimp only; walk1) | (leave1; walk_say "STEP leave1"; (try dsimp only)) | fail "no step"))
    refine notin_list_strs (News.isList N5 (.tail _ (.tail _ (.tail _ (.tail _ (.tail _ (.tail _ (.head _)))))))) hvd ?_
    (repeat' (first | (k_unfold; (try dsimp only)) | (k_end; kc_close) | ((fail_if_success (first | (with_reducible show wpAny _ _ (pyIter _) _ _ _) | (with_reducible show wpAny _ _ (call (Value.ref _) _) _ _ _) | (with_reducible show LCg.CompSrc _ _ _ _ _ _ _ _ _ _ _ _ _ _) | (with_reducible show LCg.CompSrcT _ _ _ _ _ _ _ _ _ _ _ _ _ _ _) | (with_reducible show wpAny _ _ (exec (Stmt.While _ _ _ _) _) _ _ _) | (with_reducible show wpAny _ _ (exec (Stmt.For _ _ _ _ _) _) _ _ _) | (with_reducible show wpAny _ _ (eval (Expr.ListComp _ _ _ _) _) _ _ _) | (with_reducible show wpAny _ _ (compareOp CmpOp.NotIn _ _) _ _ _) | (with_reducible show wpAny _ _ (compareOp CmpOp.NotEq (Value.ref _) (Value.ref _)) _ _ _))); walk1) | ((fail_if_success (first | (with_reducible show wpAny _ _ (pyIter _) _ _ _) | (with_reducible show wpAny _ _ (call (Value.ref _) _) _ _ _) | (with_reducible show LCg.CompSrc _ _ _ _ _ _ _ _ _ _ _ _ _ _) | (with_reducible show LCg.CompSrcT _ _ _ _ _ _ _ _ _ _ _ _ _ _ _) | (with_reducible show wpAny _ _ (exec (Stmt.While _ _ _ _) _) _ _ _) | (with_reducible show wpAny _ _ (exec (Stmt.For _ _ _ _ _) _) _ _ _) | (with_reducible show wpAny _ _ (eval (Expr.ListComp _ _ _ _) _) _ _ _) | (with_reducible show wpAny _ _ (compareOp CmpOp.NotIn _ _) _ _ _) | (with_reducible show wpAny _ _ (compareOp CmpOp.NotEq (Value.ref _) (Value.ref _)) _ _ _))); dsimp only; walk1) | (leave1; walk_say "STEP leave1"; (try dsimp only)) | fail "no step"))
    · exact LCg.CompEnd.intro F5 N5 _ (fun p hp => hp) off (.inr ⟨_, .tail _ (.tail _ (.tail _ (.tail _ (.head _)))), rfl, _, rfl⟩) ⟨rfl, by simp [*]⟩
    · exact LCg.CompEnd.intro F5 N5 _ (fun p hp => hp) off (.inr ⟨_, .tail _ (.tail _ (.tail _ (.tail _ (.head _)))), rfl, _, rfl⟩) ⟨rfl, by simp [*], _, rfl⟩
  · (repeat' (first | (k_unfold; (try dsimp only)) | (k_end; kc_close) | ((fail_if_success (first | (with_reducible show wpAny _ _ (pyIter _) _ _ _) | (with_reducible show wpAny _ _ (call (Value.ref _) _) _ _ _) | (with_reducible show LCg.CompSrc _ _ _ _ _ _ _ _ _ _ _ _ _ _) | (with_reducible show LCg.CompSrcT _ _ _ _ _ _ _ _ _ _ _ _ _ _ _) | (with_reducible show wpAny _ _ (exec (Stmt.While _ _ _ _) _) _ _ _) | (with_reducible show wpAny _ _ (exec (Stmt.For _ _ _ _ _) _) _ _ _) | (with_reducible show wpAny _ _ (eval (Expr.ListComp _ _ _ _) _) _ _ _) | (with_reducible show wpAny _ _ (compareOp CmpOp.NotIn _ _) _ _ _) | (with_reducible show wpAny _ _ (compareOp CmpOp.NotEq (Value.ref _) (Value.ref _)) _ _ _))); walk1) | ((fail_if_success (first | (with_reducible show wpAny _ _ (pyIter _) _ _ _) | (with_reducible show wpAny _ _ (call (Value.ref _) _) _ _ _) | (with_reducible show LCg.CompSrc _ _ _ _ _ _ _ _ _ _ _ _ _ _) | (with_reducible show LCg.CompSrcT _ _ _ _ _ _ _ _ _ _ _ _ _ _ _) | (with_reducible show wpAny _ _ (exec (Stmt.While _ _ _ _) _) _ _ _) | (with_reducible show wpAny _ _ (exec (Stmt.For _ _ _ _ _) _) _ _ _) | (with_reducible show wpAny _ _ (eval (Expr.ListComp _ _ _ _) _) _ _ _) | (with_reducible show wpAny _ _ (compareOp CmpOp.NotIn _ _) _ _ _) | (with_reducible show wpAny _ _ (compareOp CmpOp.NotEq (Value.ref _) (Value.ref _)) _ _ _))); dsimp only; walk1) | (leave1; walk_say "STEP leave1"; (try dsimp only)) | fail "no step"))
    rename Fr _ _ _ _ => F8
    rename News _ _ _ _ => N8
    have hfe : rs.filter (fun y => !(ds.any (· == y))) = rs.filter (fun x => !p0 x) := by
      refine List.filter_congr fun x hx => ?_
      congr 1
      rw [← heq]
      cases hp : p0 x with
      | true => exact List.any_eq_true.2 ⟨x, List.mem_filter.2 ⟨hx, hp⟩, by simp⟩
      | false =>
        rw [List.any_eq_false]
        intro z hz he
        have h1 := (List.mem_filter.1 hz).2
        have h2 : z = x := by simpa using he
        rw [h2, hp] at h1
        exact Bool.noConfusion h1
    rw [hfe] at hys
    rw [← heq] at hvd
    have ra1 := reads_tuple_at (N8 (a, _) (.tail _ (.tail _ (.head _)))).1 rfl rfl (ReadsAll.cons (reads_newData (News.isList N8 (.tail _ (.tail _ (.tail _ (.tail _ (.head _)))))) hvy.carried) (ReadsAll.cons (reads_newData (News.isList N8 (.tail _ (.tail _ (.tail _ (.head _))))) hvn.carried) .nil))
    have ra2 := reads_tuple_at (N8 _ (.head _)).1 rfl rfl (ReadsAll.cons (reads_newData (News.isList N8 (.tail _ (.tail _ (.tail _ (.tail _ (.tail _ (.head _))))))) hvd.carried) (ReadsAll.cons (reads_newData (News.isList N8 (.tail _ (.head _))) hys.carried) .nil))
    have hsh := shaped_two (rs.filter p0) (rs.filter fun x => !p0 x) (fun x hx => hso x (List.mem_filter.1 hx).1) (fun x hx => hso x (List.mem_filter.1 hx).1)
    k_dflt (refine ne_dataH ra1 ra2 hsh hsh (by ke_room) ?_)
    rw [PySem.SeqAt.eqv_refl _ (PySem.SeqAt.canLay_of_shaped hsh)]
    (repeat' (first | (k_unfold; (try dsimp only)) | (k_end; kc_close) | ((fail_if_success (first | (with_reducible show wpAny _ _ (pyIter _) _ _ _) | (with_reducible show wpAny _ _ (call (Value.ref _) _) _ _ _) | (with_reducible show LCg.CompSrc _ _ _ _ _ _ _ _ _ _ _ _ _ _) | (with_reducible show LCg.CompSrcT _ _ _ _ _ _ _ _ _ _ _ _ _ _ _) | (with_reducible show wpAny _ _ (exec (Stmt.While _ _ _ _) _) _ _ _) | (with_reducible show wpAny _ _ (exec (Stmt.For _ _ _ _ _) _) _ _ _) | (with_reducible show wpAny _ _ (eval (Expr.ListComp _ _ _ _) _) _ _ _) | (with_reducible show wpAny _ _ (compareOp CmpOp.NotIn _ _) _ _ _) | (with_reducible show wpAny _ _ (compareOp CmpOp.NotEq (Value.ref _) (Value.ref _)) _ _ _))); walk1) | ((fail_if_success (first | (with_reducible show wpAny _ _ (pyIter _) _ _ _) | (with_reducible show wpAny _ _ (call (Value.ref _) _) _ _ _) | (with_reducible show LCg.CompSrc _ _ _ _ _ _ _ _ _ _ _ _ _ _) | (with_reducible show LCg.CompSrcT _ _ _ _ _ _ _ _ _ _ _ _ _ _ _) | (with_reducible show wpAny _ _ (exec (Stmt.While _ _ _ _) _) _ _ _) | (with_reducible show wpAny _ _ (exec (Stmt.For _ _ _ _ _) _) _ _ _) | (with_reducible show wpAny _ _ (eval (Expr.ListComp _ _ _ _) _) _ _ _) | (with_reducible show wpAny _ _ (compareOp CmpOp.NotIn _ _) _ _ _) | (with_reducible show wpAny _ _ (compareOp CmpOp.NotEq (Value.ref _) (Value.ref _)) _ _ _))); dsimp only; walk1) | (leave1; walk_say "STEP leave1"; (try dsimp only)) | fail "no step"))
    rename Fr _ _ _ _ => F9
    rename News _ _ _ _ => N9
    exact next _ _ F9 (fun q hq => N9 q (.tail _ (.tail _ hq)))
end Mine
end
section
theorem Mine.fresh_T4W : True := by
  w_top off
  k_with_none
  trivial
open PySem PySem.W PyProof.Rows PySem.Calls PySem.Spec
set_option maxRecDepth 100000
namespace Mine
noncomputable def infB (r : List Nat) : List Nat → Bool
  | [] => r.isEmpty
  | c :: g => r.isPrefixOf (c :: g) || infB r g
theorem infB_iff (r : List Nat) : ∀ g : List Nat, infB r g = true ↔ ∃ i, i + r.length ≤ g.length ∧ (g.drop i).take r.length = r
  | [] => by
    unfold infB
    rw [List.isEmpty_iff]
    constructor
    · rintro rfl
      exact ⟨0, Nat.le_refl _, rfl⟩
    · rintro ⟨i, h1, _⟩
      exact List.length_eq_zero_iff.1 (by simp only [List.length_nil] at h1; omega)
  | c :: g => by
    unfold infB
    rw [Bool.or_eq_true, infB_iff r g, List.isPrefixOf_iff_prefix]
    constructor
    · rintro (h | ⟨i, h1, h2⟩)
      · exact ⟨0, by rw [Nat.zero_add]; exact h.length_le, by rw [List.drop_zero]; exact (List.prefix_iff_eq_take.1 h).symm⟩
      · exact ⟨i + 1, by rw [List.length_cons]; omega, by rw [List.drop_succ_cons]; exact h2⟩
    · rintro ⟨i, h1, h2⟩
      cases i with
      | zero =>
        rw [List.drop_zero] at h2
        exact .inl (List.prefix_iff_eq_take.2 h2.symm)
      | succ i =>
        rw [List.drop_succ_cons] at h2
        exact .inr ⟨i, by rw [List.length_cons] at h1; omega, h2⟩
open PySem.StrLaws PySem.Builtin PySem.Builtin.Str in
theorem find4_from (x y : Str) (lo : Nat) (h : lo ≤ x.length) :
    (find4 x y (lo : Int) (x.length : Int) = -1 ∧ ∀ i, lo ≤ i → ¬ At x y x.length i) ∨ ∃ i : Nat, find4 x y (lo : Int) (x.length : Int) = (i : Int) ∧ lo ≤ i ∧ At x y x.length i := by
  have e1 : fromIndex x.length (lo : Int) = lo := by unfold fromIndex; split <;> omega
  have e2 : min (fromIndex x.length (x.length : Int)) x.length = x.length := by unfold fromIndex; split <;> omega
  unfold find4
  rw [e1, e2]
  rcases occ_head_from x y lo 1 (Nat.le_refl _) with ⟨h1, h2⟩ | ⟨i, r, h1, h2, h3, _⟩
  · rw [h1]; exact .inl ⟨rfl, h2⟩
  · rw [h1]; exact .inr ⟨i, rfl, h2, h3⟩
open PySem.StrLaws PySem.Builtin PySem.Builtin.Str in
theorem find4_empty (x : Str) (lo : Nat) (h : lo ≤ x.length) : ∃ i : Nat, find4 x (Str.ofString "") (lo : Int) (x.length : Int) = (i : Int) ∧ lo ≤ i := by
  rcases find4_from x (Str.ofString "") lo h with ⟨_, h2⟩ | ⟨i, h1, h2, _⟩
  · refine absurd ⟨?_, ?_⟩ (h2 lo (Nat.le_refl _))
    · show lo + 0 ≤ x.length; omega
    · rw [subAt_eq]; rfl
  · exact ⟨i, h1, h2⟩
open PySem.StrLaws PySem.Builtin PySem.Builtin.Str in
theorem elF_inf (row got : Str) : elF row got = infB row.cps.toList got.cps.toList := by
  have hkey : infB row.cps.toList got.cps.toList = true ↔ ∃ i, At got row got.length i := by
    rw [infB_iff]
    constructor
    · rintro ⟨i, h1, h2⟩
      refine ⟨i, by have h3 : i + row.cps.size ≤ got.cps.size := (by simpa using h1); exact h3, ?_⟩
      rw [subAt_eq]
      have : row.length = row.cps.toList.length := (Array.length_toList).symm
      rw [this, h2]; simp
    · rintro ⟨i, h1, h2⟩
      refine ⟨i, by have h3 : i + row.cps.size ≤ got.cps.size := h1; simpa using h3, ?_⟩
      rw [subAt_eq] at h2
      have : row.length = row.cps.toList.length := (Array.length_toList).symm
      rw [this] at h2
      simpa using h2
  unfold elF
  obtain ⟨i0, e0, _⟩ := find4_empty got 0 (Nat.zero_le _)
  have hz : find4 got (Str.ofString "") 0 (got.length : Int) = (0 : Int) := by
    have hat : At got (Str.ofString "") got.length 0 := ⟨by show 0 + 0 ≤ got.length; omega, by rw [subAt_eq]; rfl⟩
    unfold find4
    have e1 : fromIndex got.length 0 = 0 := by unfold fromIndex; simp
    have e2 : min (fromIndex got.length (got.length : Int)) got.length = got.length := by unfold fromIndex; split <;> omega
    rw [e1, e2]
    rcases occ_head_from got (Str.ofString "") 0 1 (Nat.le_refl _) with ⟨_, h2⟩ | ⟨i, r, h1, h2, h3, h4⟩
    · exact absurd hat (h2 0 (Nat.le_refl _))
    · rw [h1]
      have : i = 0 := by
        by_cases hi : 0 < i
        · exact absurd hat (h4 0 (Nat.le_refl _) hi)
        · omega
      rw [this]; rfl
  rw [hz]
  rw [if_neg (by decide)]
  have hz0 : ((0 : Int) + ((0 : Nat) : Int)) = ((0 : Nat) : Int) := rfl
  rw [hz0]
  rcases find4_from got row 0 (Nat.zero_le _) with ⟨h1, h2⟩ | ⟨i, h1, _, h3⟩
  · rw [h1, if_pos (by decide)]
    cases hb : infB row.cps.toList got.cps.toList with
    | false => rfl
    | true =>
      obtain ⟨i, hi⟩ := hkey.1 hb
      exact absurd hi (h2 i (Nat.zero_le _))
  · rw [h1, if_neg (by omega)]
    obtain ⟨j, hj, _⟩ := find4_empty got (i + row.length) h3.1
    have e3 : ((i : Int) + (row.length : Int)) = ((i + row.length : Nat) : Int) := by omega
    rw [e3, hj, if_neg (by omega)]
    exact (hkey.2 ⟨i, h3⟩).symm
noncomputable def wordT : List ((Int × Int) × List Nat) := [((16, 0), [97, 97, 97, 97, 97, 97, 97, 97, 97, 97, 97, 97, 97, 97, 97, 97]),
  ((16, 1), [97, 97, 97, 97, 97, 97, 97, 97, 97, 97, 97, 97, 97, 97, 97, 98]),
  ((16, 2), [97, 97, 97, 97, 97, 97, 97, 98, 97, 97, 97, 97, 97, 97, 97, 98]),
  ((16, 3), [97, 97, 97, 97, 97, 98, 97, 97, 97, 97, 98, 97, 97, 97, 97, 98]),
  ((16, 4), [97, 97, 97, 98, 97, 97, 97, 98, 97, 97, 97, 98, 97, 97, 97, 98]),
  ((16, 5), [97, 97, 97, 98, 97, 97, 98, 97, 97, 98, 97, 97, 98, 97, 97, 98]),
  ((16, 6), [97, 97, 98, 97, 97, 98, 97, 98, 97, 97, 98, 97, 97, 98, 97, 98]),
  ((16, 7), [97, 97, 98, 97, 98, 97, 98, 97, 97, 98, 97, 98, 97, 98, 97, 98]),
  ((16, 8), [97, 98, 97, 98, 97, 98, 97, 98, 97, 98, 97, 98, 97, 98, 97, 98]),
  ((16, 9), [97, 98, 97, 98, 97, 98, 97, 98, 98, 97, 98, 97, 98, 97, 98, 98]),
  ((16, 10), [97, 98, 97, 98, 98, 97, 98, 98, 97, 98, 97, 98, 98, 97, 98, 98]),
  ((16, 11), [97, 98, 98, 97, 98, 98, 97, 98, 98, 97, 98, 98, 97, 98, 98, 98]),
  ((16, 12), [97, 98, 98, 98, 97, 98, 98, 98, 97, 98, 98, 98, 97, 98, 98, 98]),
  ((16, 13), [97, 98, 98, 98, 98, 97, 98, 98, 98, 98, 97, 98, 98, 98, 98, 98]),
  ((16, 14), [97, 98, 98, 98, 98, 98, 98, 98, 97, 98, 98, 98, 98, 98, 98, 98]),
  ((16, 15), [97, 98, 98, 98, 98, 98, 98, 98, 98, 98, 98, 98, 98, 98, 98, 98]),
  ((8, 0), [97, 97, 97, 97, 97, 97, 97, 97]),
  ((8, 1), [97, 97, 97, 97, 97, 97, 97, 98]),
  ((8, 2), [97, 97, 97, 98, 97, 97, 97, 98]),
  ((8, 3), [97, 97, 98, 97, 97, 98, 97, 98]),
  ((8, 4), [97, 98, 97, 98, 97, 98, 97, 98]),
  ((8, 5), [97, 98, 97, 98, 98, 97, 98, 98]),
  ((8, 6), [97, 98, 98, 98, 97, 98, 98, 98]),
  ((8, 7), [97, 98, 98, 98, 98, 98, 98, 98]),
  ((32, 8), [97, 97, 97, 98, 97, 97, 97, 98, 97, 97, 97, 98, 97, 97, 97, 98, 97, 97, 97, 98, 97, 97, 97, 98, 97, 97, 97, 98, 97, 97, 97, 98]),
  ((32, 9), [97, 97, 97, 98, 97, 97, 97, 98, 97, 97, 98, 97, 97, 97, 98, 97, 97, 98, 97, 97, 97, 98, 97, 97, 98, 97, 97, 97, 98, 97, 97, 98]),
  ((32, 10), [97, 97, 97, 98, 97, 97, 98, 97, 97, 98, 97, 97, 98, 97, 97, 98, 97, 97, 97, 98, 97, 97, 98, 97, 97, 98, 97, 97, 98, 97, 97, 98]),
  ((32, 11), [97, 97, 98, 97, 97, 98, 97, 97, 98, 97, 97, 98, 97, 97, 98, 97, 97, 98, 97, 97, 98, 97, 97, 98, 97, 97, 98, 97, 97, 98, 97, 98]),
  ((32, 12), [97, 97, 98, 97, 97, 98, 97, 98, 97, 97, 98, 97, 97, 98, 97, 98, 97, 97, 98, 97, 97, 98, 97, 98, 97, 97, 98, 97, 97, 98, 97, 98]),
  ((32, 13), [97, 97, 98, 97, 98, 97, 97, 98, 97, 98, 97, 97, 98, 97, 98, 97, 97, 98, 97, 98, 97, 97, 98, 97, 98, 97, 97, 98, 97, 98, 97, 98]),
  ((32, 14), [97, 97, 98, 97, 98, 97, 98, 97, 97, 98, 97, 98, 97, 98, 97, 98, 97, 97, 98, 97, 98, 97, 98, 97, 97, 98, 97, 98, 97, 98, 97, 98]),
  ((32, 15), [97, 97, 98, 97, 98, 97, 98, 97, 98, 97, 98, 97, 98, 97, 98, 97, 97, 98, 97, 98, 97, 98, 97, 98, 97, 98, 97, 98, 97, 98, 97, 98]),
  ((32, 16), [97, 98, 97, 98, 97, 98, 97, 98, 97, 98, 97, 98, 97, 98, 97, 98, 97, 98, 97, 98, 97, 98, 97, 98, 97, 98, 97, 98, 97, 98, 97, 98]),
  ((32, 17), [97, 98, 97, 98, 97, 98, 97, 98, 97, 98, 97, 98, 97, 98, 97, 98, 98, 97, 98, 97, 98, 97, 98, 97, 98, 97, 98, 97, 98, 97, 98, 98]),
  ((32, 18), [97, 98, 97, 98, 97, 98, 97, 98, 98, 97, 98, 97, 98, 97, 98, 98, 97, 98, 97, 98, 97, 98, 97, 98, 98, 97, 98, 97, 98, 97, 98, 98]),
  ((32, 19), [97, 98, 97, 98, 97, 98, 98, 97, 98, 97, 98, 98, 97, 98, 97, 98, 98, 97, 98, 97, 98, 98, 97, 98, 97, 98, 98, 97, 98, 97, 98, 98]),
  ((32, 20), [97, 98, 97, 98, 98, 97, 98, 98, 97, 98, 97, 98, 98, 97, 98, 98, 97, 98, 97, 98, 98, 97, 98, 98, 97, 98, 97, 98, 98, 97, 98, 98]),
  ((32, 21), [97, 98, 97, 98, 98, 97, 98, 98, 97, 98, 98, 97, 98, 98, 97, 98, 98, 97, 98, 98, 97, 98, 98, 97, 98, 98, 97, 98, 98, 97, 98, 98]),
  ((32, 22), [97, 98, 98, 97, 98, 98, 97, 98, 98, 97, 98, 98, 97, 98, 98, 98, 97, 98, 98, 97, 98, 98, 97, 98, 98, 97, 98, 98, 97, 98, 98, 98]),
  ((32, 23), [97, 98, 98, 97, 98, 98, 98, 97, 98, 98, 97, 98, 98, 98, 97, 98, 98, 97, 98, 98, 98, 97, 98, 98, 97, 98, 98, 98, 97, 98, 98, 98])]
theorem wordT_ok : wordT.all (fun e => (stairs 0 e.1.1 e.1.2 e.1.1).cps.toList == e.2) = true := by decide +kernel
theorem wordT_has : pairs.all (fun p => wordT.any fun e => e.1 == p) = true := by decide +kernel
noncomputable def rowsN : Nat → List Str
  | 0 => [Str.ofString ""]
  | n + 1 => rowsOf (Str.ofString "ab") (rowsN n)
noncomputable def lawT (k : Nat) (e : (Int × Int) × List Nat) : Bool := (rowsN k).filter (fun x => infB x.cps.toList (e.2 ++ e.2)) == (places e.1.1 e.1.2 k).map fun x => stairs x e.1.1 e.1.2 k
theorem lawT_1 : wordT.all (lawT 1) = true := by decide +kernel
theorem lawT_2 : wordT.all (lawT 2) = true := by decide +kernel
theorem lawT_3 : wordT.all (lawT 3) = true := by decide +kernel
theorem lawT_4a : ((wordT.drop 0).take 10).all (lawT 4) = true := by decide +kernel
theorem lawT_4b : ((wordT.drop 10).take 10).all (lawT 4) = true := by decide +kernel
theorem lawT_4c : ((wordT.drop 20).take 10).all (lawT 4) = true := by decide +kernel
theorem lawT_4d : ((wordT.drop 30).take 10).all (lawT 4) = true := by decide +kernel
theorem lawT_4 : wordT.all (lawT 4) = true := by
  have hd : ∀ i, (wordT.drop i).drop 10 = wordT.drop (i + 10) := fun i => by rw [List.drop_drop]
  exact (all_take (n := 10) (l := wordT.drop 0) lawT_4a (by rw [hd]; exact (all_take (n := 10) lawT_4b (by rw [hd]; exact (all_take (n := 10) lawT_4c (by rw [hd]; exact (all_take (n := 10) lawT_4d (by decide)))))))
    )
theorem law_holds {size step : Int} {k : Nat} (hg : Good size step) (h0 : 0 < k) (hk : k < 5) :
    (rowsN k).filter (fun x => elF x (stairs 0 size step size ++ stairs 0 size step size)) = (places size step k).map fun x => stairs x size step k := by
  obtain ⟨e, he, hp⟩ := List.any_eq_true.1 (List.all_eq_true.1 wordT_has _ (good_mem hg))
  have hp : e.1 = (size, step) := by simpa using hp
  have hw := List.all_eq_true.1 wordT_ok e he
  have hl : lawT k e = true := by
    have : k = 1 ∨ k = 2 ∨ k = 3 ∨ k = 4 := by omega
    rcases this with rfl | rfl | rfl | rfl
    · exact List.all_eq_true.1 lawT_1 e he
    · exact List.all_eq_true.1 lawT_2 e he
    · exact List.all_eq_true.1 lawT_3 e he
    · exact List.all_eq_true.1 lawT_4 e he
  unfold lawT at hl
  rw [hp] at hw hl
  have hw := eq_of_beq hw
  have hl := eq_of_beq hl
  rw [← hl]
  refine List.filter_congr fun x _ => ?_
  rw [elF_inf]
  show infB x.cps.toList ((stairs 0 size step size).cps ++ (stairs 0 size step size).cps).toList = _
  rw [Array.toList_append, hw]
end Mine
end
section
theorem Mine.fresh_T4F : True := by
  w_top off
  k_with_none
  trivial
open PySem PySem.W PyProof.Rows PySem.Calls PySem.Spec
namespace Mine
noncomputable def cntAt (size step : Int) (k : Nat) : Bool :=
  let p := places size step k
  p.all (fun x => decide (0 ≤ x) && decide (x < 64)) && decide (p.length ≤ 5) && decide ((p.length : Int) = if size.fdiv (Int.gcd size step) < (k : Int) + 1 then size.fdiv (Int.gcd size step) else (k : Int) + 1)
theorem cntAt_0 : pairs.all (fun p => cntAt p.1 p.2 0) = true := by decide +kernel
theorem cntAt_1 : pairs.all (fun p => cntAt p.1 p.2 1) = true := by decide +kernel
theorem cntAt_2 : pairs.all (fun p => cntAt p.1 p.2 2) = true := by decide +kernel
theorem cntAt_3 : pairs.all (fun p => cntAt p.1 p.2 3) = true := by decide +kernel
theorem cntAt_4 : pairs.all (fun p => cntAt p.1 p.2 4) = true := by decide +kernel
theorem cntAt_at {a b : Int} {k : Nat} (h : (a, b) ∈ pairs) (hk : k < 5) : cntAt a b k = true := by
  match k, hk with
  | 0, _ => have h2 := List.all_eq_true.1 cntAt_0 _ h; exact h2
  | 1, _ => have h2 := List.all_eq_true.1 cntAt_1 _ h; exact h2
  | 2, _ => have h2 := List.all_eq_true.1 cntAt_2 _ h; exact h2
  | 3, _ => have h2 := List.all_eq_true.1 cntAt_3 _ h; exact h2
  | 4, _ => have h2 := List.all_eq_true.1 cntAt_4 _ h; exact h2
structure TurnFacts (size step : Int) (k : Nat) : Prop where
  rng : ∀ x ∈ places size step k, 0 ≤ x ∧ x < 64
  len : (places size step k).length ≤ 5
  cnt : ((places size step k).length : Int) = if size.fdiv (Int.gcd size step) < (k : Int) + 1 then size.fdiv (Int.gcd size step) else (k : Int) + 1
  law : (rowsN k).filter (fun x => elF x (stairs 0 size step size ++ stairs 0 size step size)) = (places size step k).map fun x => stairs x size step k
theorem turnFacts {size step : Int} {k : Nat} (hg : Good size step) (h0 : 0 < k) (hk : k < 5) : TurnFacts size step k := by
  have h1 := cntAt_at (good_mem hg) hk
  unfold cntAt at h1
  simp only [Bool.and_eq_true, List.all_eq_true, decide_eq_true_eq] at h1
  exact ⟨h1.1.1, h1.1.2, h1.2, law_holds hg h0 hk⟩
end Mine
end
section
theorem Mine.fresh_Stg4 : True := by
  w_top off
  k_with_none
  trivial
open PySem PySem.W PyProof.Rows PySem.Calls PySem.Spec
namespace Mine
noncomputable def rowOkB (x : Str) : Bool := decide (x.length ≤ 4) && (Txt.split (want3 x) (Str.ofString "...") == [Str.ofString "", x, Str.ofString ""]) && (Builtin.Str.occurrences (want3 x) (Str.ofString "...") 0 (want3 x).length 1).isEmpty == false && PyData.strOk x
theorem rowOkB_all : (List.range 5).all (fun k => decide ((rowsN k).length ≤ 16) && (rowsN k).all rowOkB) = true := by decide +kernel
theorem rowsN_len8 : (List.range 4).all (fun k => decide ((rowsN k).length ≤ 8)) = true := by decide +kernel
theorem rows_ok {k : Nat} (hk : k < 5) : (rowsN k).length ≤ 16 ∧ ∀ x ∈ rowsN k, RowOk x ∧ PyData.strOk x = true := by
  have h := List.all_eq_true.1 rowOkB_all k (List.mem_range.2 hk)
  simp only [Bool.and_eq_true, List.all_eq_true, decide_eq_true_eq] at h
  refine ⟨h.1, fun x hx => ?_⟩
  have h2 := h.2 x hx
  unfold rowOkB at h2
  simp only [Bool.and_eq_true, decide_eq_true_eq, beq_iff_eq] at h2
  exact ⟨⟨h2.1.1.1, h2.1.1.2, h2.1.2⟩, h2.2⟩
noncomputable abbrev frR (gs : Int) (tm : Tok) (ra : Addr) (m : Str → Option Value) : Str → Option Value := fun z => if z = Str.ofString "rows" then some (.ref ra) else if z = Str.ofString "measure" then some (.int gs tm) else m z
structure J4 (L I : Addr) (gs : Int) (tm : Tok) (o1 o2 o5 : Obj) (i : Nat) (m₁ : Str → Option Value) (nx : List (Addr × Obj)) (ra : Addr) (vr : List Value) (cr : Nat) (o3 o4 : Obj) (tab : Array Value) (xa : Addr) (xo : Obj) (m : Str → Option Value) : Prop where
  fm : m₁ = frR gs tm ra m
  led : nx = [(ra, W.listOf vr.toArray cr), (L + 1 + 1 + 1 + 1 + 1, o5), (L + 1 + 1 + 1 + 1, o4), (L + 1 + 1 + 1, o3), (L + 1 + 1, o2), (L + 1, o1), (70, tabObj tab), (xa, xo)]
  hstr : StrsAre vr (rowsN i)
  c3 : ∃ v, o3.data = .cell v
  c4 : ∃ v, o4.data = .cell v
  tabs : TabSt tab xa xo
  xat : @Eq Nat xa (L + 1) ∨ @LT.lt Nat _ (L + 1 + 1 + 1 + 1 + 1) xa
  ral : @LT.lt Nat _ (L + 1 + 1 + 1 + 1 + 1) ra
theorem frame_swap {a b : Str} {x y : Option Value} {f : Str → Option Value} (h : a ≠ b) : (fun z => if z = a then x else if z = b then y else f z) = fun z => if z = b then y else if z = a then x else f z := funext fun z => by
  by_cases h1 : z = a
  · have h2 : z ≠ b := fun e => h (h1.symm.trans e)
    rw [if_pos h1, if_neg h2, if_pos h1]
  · rw [if_neg h1, if_neg h1]
theorem frame4 {a b c d : Str} {x y u v : Option Value} {f : Str → Option Value} (h1 : a ≠ b) (h2 : a ≠ d) (h3 : c ≠ d) (h4 : b ≠ d) (h5 : b ≠ c) :
    (fun z => if z = a then x else if z = b then y else if z = c then u else if z = d then v else f z) = fun z => if z = b then y else if z = d then v else if z = a then x else if z = c then u else f z := funext fun z => by
  by_cases e1 : z = b
  · subst e1
    rw [if_neg (Ne.symm h1), if_pos rfl, if_pos rfl]
  · by_cases e2 : z = d
    · subst e2
      rw [if_neg (Ne.symm h2), if_neg e1, if_neg (Ne.symm h3), if_pos rfl, if_neg e1, if_pos rfl]
    · simp only [e1, e2, if_false]
set_option maxRecDepth 100000 in
set_option maxHeartbeats 4000000 in
theorem turn4 (w : World) (p : Program) (loose : List Str) (mean : ExcName → Option Value) (mg mb : Str → Option Value) (L fa : Addr) (h₀ : Heap) (s : Shared) (Q : Flow → Shared → Prop) (E : Value → Shared → Prop)
    (size step : Int) (t1 t2 tm t5 : Tok) (o1 o2 o5 : Obj)
    (B : Below callerA h₀ [] h₀) (X : (Mine.hd.heap_39 w.params).In h₀) (T : Top p loose mean mg mb h₀) (cd : CodeHd h₀ 72 70) (l0 : 70 < L)
    (d1 : o1.data = .cell (some (.int size t1))) (d2 : o2.data = .cell (some (.int step t2))) (d5 : o5.data = .cell (some (.str (stairs 0 size step size) t5)))
    (hg : Good size step) (i : Nat) (hi : i < 4) (I : Addr) (it : Obj) (t : Tok) (h : Heap) (tk : Nat)
    (ra : Addr) (vr : List Value) (cr : Nat) (o3 o4 : Obj) (tab : Array Value) (xa : Addr) (xo : Obj) (m m₁ : Str → Option Value) (nx : List (Addr × Obj))
    (j : J4 L I (Int.gcd size step) tm o1 o2 o5 i m₁ nx ra vr cr o3 o4 tab xa xo m) (hoff : ∀ q ∈ nx, q.1 ≠ I)
    (F : Fr h₀ L h m₁) (N : News h₀ L h ((I, it) :: nx))
    (J' : (Str → Option Value) → List (Addr × Obj) → Prop)
    (hJ' : ∀ m₁ nx ra vr cr o3 o4 tab xa xo m, J4 L I (Int.gcd size step) tm o1 o2 o5 (i + 1) m₁ nx ra vr cr o3 o4 tab xa xo m → J' m₁ nx) :
    wpAny (model PySem.Challenge.rw_pe0130_01.row.prog w) (callerA.deeper (env0 L fa)) (assign targetF (env0 L fa) (.int (1 + (i : Int)) t)) (fun _ s₂ =>
      wpAny (model PySem.Challenge.rw_pe0130_01.row.prog w) (callerA.deeper (env0 L fa)) (execs bodyF (env0 L fa)) (fun f s₃ => UnrPost h₀ L { s with heap := h, toks := tk } I it J' Q f s₃) E s₂) E { s with heap := h, toks := tk } := by
  have l0' : @LT.lt Nat _ 70 L := l0
  obtain ⟨rfl, rfl, hst, ⟨v3, d3⟩, ⟨v4, d4⟩, hts, hxt, hral⟩ := j
  have hne : ∀ q : Addr × Obj, q ∈ [(ra, W.listOf vr.toArray cr), (L + 1 + 1 + 1 + 1 + 1, o5), (L + 1 + 1 + 1 + 1, o4), (L + 1 + 1 + 1, o3), (L + 1 + 1, o2), (L + 1, o1), (70, tabObj tab), (xa, xo)] → @Ne Nat q.1 I := hoff
  have nI3 : @Ne Nat I (L + 1 + 1 + 1) := Ne.symm (hne (L + 1 + 1 + 1, o3) (by simp))
  have nI4 : @Ne Nat I (L + 1 + 1 + 1 + 1) := Ne.symm (hne (L + 1 + 1 + 1 + 1, o4) (by simp))
  have nI70 : @Ne Nat 70 I := hne (70, tabObj tab) (by simp)
  have nIx : @Ne Nat xa I := hne (xa, xo) (by simp)
  have nx3 : @Ne Nat xa (L + 1 + 1 + 1) := by refine neN ?_; rcases hxt with h | h <;> omega
  have nx4 : @Ne Nat xa (L + 1 + 1 + 1 + 1) := by refine neN ?_; rcases hxt with h | h <;> omega
  have nx70 : @Ne Nat 70 xa := by refine neN ?_; rcases hxt with h | h <;> omega
  have nr3 : @Ne Nat ra (L + 1 + 1 + 1) := by refine neN ?_; omega
  have e5 : @Ne Nat (L + 1 + 1 + 1 + 1 + 1) (L + 1 + 1 + 1) := by refine neN ?_; omega
  have e4 : @Ne Nat (L + 1 + 1 + 1 + 1) (L + 1 + 1 + 1) := by refine neN ?_; omega
  have e2 : @Ne Nat (L + 1 + 1) (L + 1 + 1 + 1) := by refine neN ?_; omega
  have e1 : @Ne Nat (L + 1) (L + 1 + 1 + 1) := by refine neN ?_; omega
  have e0 : @Ne Nat 70 (L + 1 + 1 + 1) := by refine neN ?_; omega
  have hk : (1 + (i : Int)) = ((i + 1 : Nat) : Int) := by omega
  rw [hk]
  have tf := turnFacts hg (Nat.succ_pos i) (by omega : i + 1 < 5)
  have hro := rows_ok (by omega : i + 1 < 5)
  have hri := rows_ok (by omega : i < 5)
  have hr8 := List.all_eq_true.1 rowsN_len8 i (List.mem_range.2 hi)
  simp only [decide_eq_true_eq] at hr8
  refine wpAny_assign_Name ?_
  refine storeX_C (c := L + 1 + 1 + 1) (o := o3) F N rfl (.tail nI3 (.tail nr3 (.tail e5 (.tail e4 (.head (fun q hq => ?_)))))) d3 (fun h2 o3' F2 N2 d3' => ?_)
  · simp only [List.mem_cons, List.not_mem_nil, or_false] at hq
    rcases hq with rfl | rfl | rfl | rfl
    · exact e2
    · exact e1
    · exact e0
    · exact nx3
  with_reducible refine Goes.go ?_
  refine turnA w p loose mean mg mb L fa h₀ _ _ _ E size step (i + 1) t1 t2 t o1 o2 o3' o4 o5 ra vr cr (rowsN i) tab xa I xo it B X T l0 F2 (fun q hq => N2 q (by
      simp only [List.mem_cons, List.not_mem_nil, or_false] at hq ⊢
      rcases hq with h | h | h | h | h | h | h | h | h <;> simp [h])) d1 d2 d3' hg (by omega) hst hr8 (fun r hr => Nat.le_trans (hri.2 r hr).1.len (by decide)) ?_
  intro ra' us pa vp cp h3 tk3 F3 N3 la lb lc ld hvp hus
  refine turnB w p loose mean mg mb L fa h₀ _ _ _ E size step (i + 1) t1 t2 t tm o1 o2 o3' o4 o5 ra' pa us vp cp tab xa I xo it B X T l0 F3 N3 d1 d2 d3' ⟨v4, d4⟩ hg (by omega) hvp tf.rng tf.len tf.cnt ld la nx4 nI4 ?_
  intro da vd o4' h5 tk5 F5 N5 d4' hdn hvd
  rw [frame_swap (by decide)] at F5
  have nr70 : @Ne Nat 70 ra' := by refine neN ?_; omega
  refine turnC w p loose mean mg mb L fa h₀ _ _ _ E (stairs 0 size step size) t5 o1 o2 o3' o4' o5 ra' da us vd (rowsN (i + 1)) tab xa I xo it B X T cd l0 F5 N5 d5 (by rw [stairs_len]; rcases hg with h | h | h <;> omega) hdn.1 nr70 nx70 nI70 hts hus hro.1 (fun x hx => (hro.2 x hx).1) ?_
  intro a ya na vy vn cy cn c' oc h6 tk6 F6 N6 hts' n70 hcx hlt hvy hvn
  refine turnD w p loose mean mg mb L fa h₀ _ _ _ E o1 o2 o3' o4' o5 ra' da a ya na us vd vy vn cy cn (rowsN (i + 1)) _ (fun x => elF x (stairs 0 size step size ++ stairs 0 size step size)) (tabOf c') c' I oc it B X T cd l0 F6 N6 d4' hus hro.1 hvd hvy hvn tf.law (fun x hx => (hro.2 x hx).2) ?_
  intro h7 tk7 F7 N7
  have hc'I : @Ne Nat c' I := by
    rcases hcx with ⟨_, h⟩ | h
    · exact Ne.symm (Nat.ne_of_lt h)
    · rw [h]; exact nIx
  rw [frame4 (by decide) (by decide) (by decide) (by decide) (by decide)] at F7
  refine UnrEnd.intro F7 N7 [(ra', W.listOf us.toArray us.length), (L + 1 + 1 + 1 + 1 + 1, o5), (L + 1 + 1 + 1 + 1, o4'), (L + 1 + 1 + 1, o3'), (L + 1 + 1, o2), (L + 1, o1), (70, tabObj (tabOf c')), (c', oc)] (fun q hq => ?_) (fun q hq => ?_) (hJ' _ _ ra' us us.length o3' o4' (tabOf c') c' oc _ ⟨rfl, rfl, hus, ⟨_, d3'⟩, ⟨_, d4'⟩, hts', ?_, ld⟩)
  · simp only [List.mem_cons, List.not_mem_nil, or_false] at hq ⊢
    rcases hq with h | h | h | h | h | h | h | h | h <;> simp [h]
  · simp only [List.mem_cons, List.not_mem_nil, or_false] at hq
    rcases hq with rfl | rfl | rfl | rfl | rfl | rfl | rfl | rfl
    · exact Ne.symm (Nat.ne_of_lt lb)
    · exact hne (L + 1 + 1 + 1 + 1 + 1, o5) (by simp)
    · exact Ne.symm nI4
    · exact Ne.symm nI3
    · exact hne (L + 1 + 1, o2) (by simp)
    · exact hne (L + 1, o1) (by simp)
    · exact nI70
    · exact hc'I
  · rcases hcx with ⟨h, _⟩ | h
    · exact .inr h
    · rw [h]; exact hxt
set_option maxRecDepth 100000 in
set_option maxHeartbeats 4000000 in
theorem stage4 (w : World) (p : Program) (loose : List Str) (mean : ExcName → Option Value) (mg mb : Str → Option Value) (L fa : Addr) (h₀ : Heap) (m : Str → Option Value) (s : Shared) (Q : Flow → Shared → Prop) (E : Value → Shared → Prop)
    (size step : Int) (word : Str) (t1 t2 t3 t4 : Tok) (o1 o2 o3 o4 o5 : Obj)
    (hE : PassesOwn (model PySem.Challenge.rw_pe0130_01.row.prog w) (callerA.deeper (env0 L fa)) (env0 L fa) E)
    (B : Below callerA h₀ [] h₀) (X : (Mine.hd.heap_39 w.params).In h₀) (T : Top p loose mean mg mb h₀) (cd : CodeHd h₀ 72 70) (l0 : 70 < L)
    (F : Fr h₀ L s.heap (fun y => if y = Str.ofString "measure" then some (.int (Int.gcd size step) t3) else m y))
    (N : News h₀ L s.heap [(L + 1 + 1 + 1 + 1 + 1, o5), (L + 1 + 1 + 1 + 1, o4), (L + 1 + 1 + 1, o3), (L + 1 + 1, o2), (L + 1, o1), (70, tabObj #[])])
    (d1 : o1.data = .cell (some (.int size t1))) (d2 : o2.data = .cell (some (.int step t2))) (d3 : ∃ v, o3.data = .cell v) (d4 : ∃ v, o4.data = .cell v) (d5 : o5.data = .cell (some (.str word t4)))
    (hg : Good size step) (hw : word = stairs 0 size step size)
    (hQ : ∀ h' tk m' tab, Fr h₀ L h' m' → News h₀ L h' [(70, tabObj tab)] → Q (.ret (.bool true)) { s with heap := h', toks := tk }) :
    Goes w (callerA.deeper (env0 L fa)) (lawBody.drop 13) (env0 L fa) Q E s := by
  refine ⟨?_⟩
  have l0' : @LT.lt Nat _ 70 L := l0
  have X0 := X
  have cd0 := cd
  have hE0 := hE
  revert hE X
  k_fill
  intro hE X
  obtain ⟨v3, d3⟩ := d3
  obtain ⟨v4, d4⟩ := d4
  unfold env0 at hE ⊢
  rw [show lawBody.drop 13 = [_, _, _] from rfl]
  rw [show lawScope = ⟨_, _, _, _, _⟩ from rfl] at hE ⊢
  (repeat' (first | (k_unfold; (try dsimp only)) | (k_end; kc_close) | ((fail_if_success (first | (with_reducible show wpAny _ _ (pyIter _) _ _ _) | (with_reducible show wpAny _ _ (call (Value.ref _) _) _ _ _) | (with_reducible show LCg.CompSrc _ _ _ _ _ _ _ _ _ _ _ _ _ _) | (with_reducible show wpAny _ _ (exec (Stmt.While _ _ _ _) _) _ _ _) | (with_reducible show wpAny _ _ (exec (Stmt.For _ _ _ _ _) _) _ _ _))); walk1) | ((fail_if_success (first | (with_reducible show wpAny _ _ (pyIter _) _ _ _) | (with_reducible show wpAny _ _ (call (Value.ref _) _) _ _ _) | (with_reducible show LCg.CompSrc _ _ _ _ _ _ _ _ _ _ _ _ _ _) | (with_reducible show wpAny _ _ (exec (Stmt.While _ _ _ _) _) _ _ _) | (with_reducible show wpAny _ _ (exec (Stmt.For _ _ _ _ _) _) _ _ _))); dsimp only; walk1) | (leave1; walk_say "STEP leave1"; (try dsimp only)) | fail "no step"))
  refine wpAny_For ?_ (by intro _; rfl)
  (repeat' (first | (k_unfold; (try dsimp only)) | (k_end; kc_close) | ((fail_if_success (first | (with_reducible show wpAny _ _ (pyIter _) _ _ _) | (with_reducible show wpAny _ _ (call (Value.ref _) _) _ _ _) | (with_reducible show LCg.CompSrc _ _ _ _ _ _ _ _ _ _ _ _ _ _) | (with_reducible show wpAny _ _ (exec (Stmt.While _ _ _ _) _) _ _ _) | (with_reducible show wpAny _ _ (exec (Stmt.For _ _ _ _ _) _) _ _ _))); walk1) | ((fail_if_success (first | (with_reducible show wpAny _ _ (pyIter _) _ _ _) | (with_reducible show wpAny _ _ (call (Value.ref _) _) _ _ _) | (with_reducible show LCg.CompSrc _ _ _ _ _ _ _ _ _ _ _ _ _ _) | (with_reducible show wpAny _ _ (exec (Stmt.While _ _ _ _) _) _ _ _) | (with_reducible show wpAny _ _ (exec (Stmt.For _ _ _ _ _) _) _ _ _))); dsimp only; walk1) | (leave1; walk_say "STEP leave1"; (try dsimp only)) | fail "no step"))
  rename Fr _ _ _ _ => F1
  rename News _ _ _ _ => N1
  rename IsRange _ _ _ _ _ _ _ _ => R1
  rename_i la _ l1 _ _ _ _ _ _ _ _ _
  have N2 : News h₀ L _ [(la, W.listOf [Value.str (Str.ofString "") s.toks].toArray 0), (L + 1 + 1 + 1 + 1 + 1, o5), (L + 1 + 1 + 1 + 1, o4), (L + 1 + 1 + 1, o3), (L + 1 + 1, o2), (L + 1, o1), (70, tabObj #[]), (L + 1, o1)] := fun q hq => N1 q (by
    simp only [List.mem_cons, List.not_mem_nil, or_false] at hq ⊢
    rcases hq with h | h | h | h | h | h | h | h <;> simp [h])
  have j0 : J4 L 0 (Int.gcd size step) t3 o1 o2 o5 0 _ [(la, W.listOf [Value.str (Str.ofString "") s.toks].toArray 0), (L + 1 + 1 + 1 + 1 + 1, o5), (L + 1 + 1 + 1 + 1, o4), (L + 1 + 1 + 1, o3), (L + 1 + 1, o2), (L + 1, o1), (70, tabObj #[]), (L + 1, o1)] la [Value.str (Str.ofString "") s.toks] 0 o3 o4 #[] (L + 1) o1 m := ⟨rfl, rfl, .cons _ _ .nil, ⟨_, d3⟩, ⟨_, d4⟩, .inl rfl, .inl rfl, l1.1⟩
  refine iter_rangeC (n := 4) (fun i m₁ nx => ∃ I ra vr cr o3 o4 tab xa xo m', J4 L I (Int.gcd size step) t3 o1 o2 o5 i m₁ nx ra vr cr o3 o4 tab xa xo m') rfl R1 (by decide) (by decide) F1 N2 ⟨_, _, _, _, _, _, _, _, _, _, j0⟩ hE (fun v => rfl) (fun i m₁ nx I h' tk' t hi hj hoff F' N' => ?turn) (fun m₁ nx h' tk' hj F' N' => ?done)
  case turn =>
    obtain ⟨I0, ra, vr, cr, o3', o4', tab, xa, xo, m', j⟩ := hj
    exact turn4 w p loose mean mg mb L fa h₀ _ _ E size step t1 t2 t3 t4 o1 o2 o5 B X0 T cd l0 d1 d2 (by rw [← hw]; exact d5) hg i hi I _ t h' tk' ra vr cr o3' o4' tab xa xo m' m₁ nx ⟨j.fm, j.led, j.hstr, j.c3, j.c4, j.tabs, j.xat, j.ral⟩ hoff F' N' _ (fun m₁ nx ra vr cr o3 o4 tab xa xo m hj => ⟨I, ra, vr, cr, o3, o4, tab, xa, xo, m, hj⟩)
  case done =>
    obtain ⟨I0, ra, vr, cr, o3', o4', tab, xa, xo, m', j⟩ := hj
    have N70 : News h₀ L h' [(70, tabObj tab)] := fun q hq => N' q (by rw [List.mem_singleton.mp hq, j.led]; simp)
    have F70 := F'
    (repeat' (first | (k_unfold; (try dsimp only)) | (k_end; kc_close) | ((fail_if_success (first | (with_reducible show wpAny _ _ (pyIter _) _ _ _) | (with_reducible show wpAny _ _ (call (Value.ref _) _) _ _ _) | (with_reducible show LCg.CompSrc _ _ _ _ _ _ _ _ _ _ _ _ _ _) | (with_reducible show wpAny _ _ (exec (Stmt.While _ _ _ _) _) _ _ _) | (with_reducible show wpAny _ _ (exec (Stmt.For _ _ _ _ _) _) _ _ _))); walk1) | ((fail_if_success (first | (with_reducible show wpAny _ _ (pyIter _) _ _ _) | (with_reducible show wpAny _ _ (call (Value.ref _) _) _ _ _) | (with_reducible show LCg.CompSrc _ _ _ _ _ _ _ _ _ _ _ _ _ _) | (with_reducible show wpAny _ _ (exec (Stmt.While _ _ _ _) _) _ _ _) | (with_reducible show wpAny _ _ (exec (Stmt.For _ _ _ _ _) _) _ _ _))); dsimp only; walk1) | (leave1; walk_say "STEP leave1"; (try dsimp only)) | fail "no step"))
    exact hQ _ _ _ tab F70 N70
end Mine
end
section
theorem Mine.fresh_Stg3c : True := by
  w_top off
  k_with_none
  trivial
open PySem PySem.W PyProof.Rows PySem.Calls PySem.Spec
namespace Mine

noncomputable abbrev comF (size step : Int) : List Int → Int → List Int := fun l' k' => if size.fmod k' = 0 ∧ step.fmod k' = 0 then l' ++ [k'] else if size.fmod k' = 0 ∧ ¬step.fmod k' = 0 then l' else l'
theorem comF_mem (size step k : Int) : ∀ (l acc : List Int), k ∈ List.foldl (comF size step) acc l ↔ k ∈ acc ∨ (k ∈ l ∧ size.fmod k = 0 ∧ step.fmod k = 0)
  | [], acc => by simp
  | a :: l, acc => by
    rw [List.foldl_cons, comF_mem size step k l]
    unfold comF
    by_cases h : size.fmod a = 0 ∧ step.fmod a = 0
    · rw [if_pos h]
      simp only [List.mem_append, List.mem_cons, List.not_mem_nil, or_false]
      constructor
      · rintro ((h1 | rfl) | h1)
        · exact .inl h1
        · exact .inr ⟨.inl rfl, h⟩
        · exact .inr ⟨.inr h1.1, h1.2⟩
      · rintro (h1 | ⟨rfl | h1, h2⟩)
        · exact .inl (.inl h1)
        · exact .inl (.inr rfl)
        · exact .inr ⟨h1, h2⟩
    · rw [if_neg h, ite_self]
      simp only [List.mem_cons]
      constructor
      · rintro (h1 | h1)
        · exact .inl h1
        · exact .inr ⟨.inr h1.1, h1.2⟩
      · rintro (h1 | ⟨rfl | h1, h2⟩)
        · exact .inl h1
        · exact absurd h2 h
        · exact .inr ⟨h1, h2⟩
theorem mem_rangeKs' {a₀ k : Int} {n : Nat} (h1 : a₀ ≤ k) (h2 : k < a₀ + (n : Int)) : k ∈ rangeKs a₀ n := by
  unfold rangeKs
  refine List.mem_map.2 ⟨(k - a₀).toNat, List.mem_range.2 (by omega), ?_⟩
  omega
theorem gcd_mem {size step : Int} (h0 : 0 < size) : (Int.gcd size step : Int) ∈ List.foldl (comF size step) [] (rangeKs 1 (size + 1 - 1).toNat) := by
  have h1 : (Int.gcd size step : Int) ∣ size := Int.gcd_dvd_left ..
  have h2 : (Int.gcd size step : Int) ∣ step := Int.gcd_dvd_right ..
  have h3 : 0 < Int.gcd size step := Int.gcd_pos_of_ne_zero_left _ (by omega)
  have h4 := Int.le_of_dvd h0 h1
  exact (comF_mem ..).2 (.inr ⟨mem_rangeKs' (by omega) (by omega), Int.fmod_eq_zero_of_dvd h1, Int.fmod_eq_zero_of_dvd h2⟩)
theorem meas_gcd {size step M : Int} (h0 : 0 < size) (hm : M ∈ List.foldl (comF size step) [] (rangeKs 1 (size + 1 - 1).toNat)) (hx : ∀ a, a ∈ List.foldl (comF size step) [] (rangeKs 1 (size + 1 - 1).toNat) → a ≤ M) : M = (Int.gcd size step : Int) := by
  have h1 := hx _ (gcd_mem h0)
  obtain ⟨hr, ha, hb⟩ := ((comF_mem ..).1 hm).resolve_left (by simp)
  have h3 : 0 < Int.gcd size step := Int.gcd_pos_of_ne_zero_left _ (by omega)
  have h2 : M ∣ (Int.gcd size step : Int) := Int.dvd_coe_gcd (Int.dvd_of_fmod_eq_zero ha) (Int.dvd_of_fmod_eq_zero hb)
  have := Int.le_of_dvd (by omega) h2
  omega
theorem ends_b : ∀ n : Nat, n < 33 → stairs 0 (n : Int) n n = Txt.mul (Str.ofString "b") n := by decide +kernel
theorem ends_a : ∀ n : Nat, n < 33 → stairs 0 (n : Int) 0 n = Txt.mul (Str.ofString "a") n := by decide +kernel
theorem WInv.ends {size step : Int} {word : Str} {c : WSt} (i : WInv size step word c) (h0 : 0 ≤ step) (hex : ¬ (0 < c.x ∧ 0 < c.y)) : (0 < step → c.line = Txt.mul (Str.ofString "b") (Int.gcd size step : Int)) ∧ (¬ 0 < step → c.line = Txt.mul (Str.ofString "a") (Int.gcd size step : Int)) := by
  have i1 := i.x0
  have i2 := i.y0
  have i3 := i.s0
  have i4 := i.s1
  refine ⟨fun h => ?_, fun h => ?_⟩
  · have := i.pos h
    have ex : c.x = 0 := by omega
    have e := i.g
    rw [ex, Int.gcd_zero_left] at e
    rw [i.line, ex, ← e, Int.zero_add]
    have := ends_b c.y.natAbs (by omega)
    rwa [show ((c.y.natAbs : Nat) : Int) = c.y by omega] at this ⊢
  · have ey := i.zer (by omega)
    have e := i.g
    rw [ey, Int.gcd_zero_right] at e
    rw [i.line, ey, ← e, Int.add_zero]
    have := ends_a c.x.natAbs (by omega)
    rwa [show ((c.x.natAbs : Nat) : Int) = c.x by omega] at this ⊢
section
set_option maxRecDepth 100000 in
set_option maxHeartbeats 8000000 in
theorem stage3c (w : World) (p : Program) (loose : List Str) (mean : ExcName → Option Value) (mg mb : Str → Option Value) (L fa : Addr) (h₀ : Heap) (m : Str → Option Value) (s : Shared) (Q : Flow → Shared → Prop) (E : Value → Shared → Prop)
    (size step : Int) (word : Str) (t1 t2 t4 : Tok) (o1 o2 o3 o4 o5 : Obj) (line : Str) (tl : Tok) (ta ba : Addr) (vt vb : List Value) (ct cb : Nat) (th bk : List Str) (M : Int) (tm : Tok)
    (hE : PassesOwn (model PySem.Challenge.rw_pe0130_01.row.prog w) (callerA.deeper (env0 L fa)) (env0 L fa) E)
    (B : Below callerA h₀ [] h₀) (X : (Mine.hd.heap_39 w.params).In h₀) (T : Top p loose mean mg mb h₀) (cd : CodeHd h₀ 72 70) (l0 : 70 < L)
    (F : Fr h₀ L s.heap (fun z => if z = Str.ofString "measure" then some (.int M tm) else if z = Str.ofString "back" then some (.ref ba) else if z = Str.ofString "there" then some (.ref ta) else if z = Str.ofString "line" then some (.str line tl) else m z))
    (N : News h₀ L s.heap [(ba, W.listOf vb.toArray cb), (ta, W.listOf vt.toArray ct), (L + 1 + 1 + 1 + 1 + 1, o5), (L + 1 + 1 + 1 + 1, o4), (L + 1 + 1 + 1, o3), (L + 1 + 1, o2), (L + 1, o1), (70, tabObj #[])])
    (d1 : o1.data = .cell (some (.int size t1))) (d2 : o2.data = .cell (some (.int step t2))) (d3 : ∃ v, o3.data = .cell v) (d4 : ∃ v, o4.data = .cell v) (d5 : o5.data = .cell (some (.str word t4)))
    (hst : StrsAre vt th) (hsb : StrsAre vb bk) (hg : Good size step) (hw : word = stairs 0 size step size) (hQ : ∀ h' tk m' tab, Fr h₀ L h' m' → News h₀ L h' [(70, tabObj tab)] → Q (.ret (.bool true)) { s with heap := h', toks := tk })
    (hth : replL word th = line) (hbk : replL line bk = word) (hto : replOk word th) (hbo : replOk line bk) (hl1 : vt.length ≤ 64) (hl2 : vb.length ≤ 64) (hM : M = (Int.gcd size step : Int)) :
    Goes w (callerA.deeper (env0 L fa)) (lawBody.drop 12) (env0 L fa) Q E s := by
  subst hM
  refine ⟨?_⟩
  revert X
  k_fill
  intro X
  obtain ⟨v3, d3⟩ := d3
  obtain ⟨v4, d4⟩ := d4
  revert hE
  unfold env0
  rw [show lawBody.drop 12 = [_, _, _, _] from rfl]
  rw [show lawScope = ⟨_, _, _, _, _⟩ from rfl]
  intro hE
  have hvt := StrsAre.length hst
  have hvb := StrsAre.length hsb
  have hm1 : th.length ≤ 64 := hvt ▸ hl1
  have hm2 : bk.length ≤ 64 := hvb ▸ hl2
  (repeat' (first | (k_unfold; (try dsimp only)) | (k_end; kc_close) | ((fail_if_success (first | (with_reducible show wpAny _ _ (pyIter _) _ _ _) | (with_reducible show wpAny _ _ (call (Value.ref _) _) _ _ _) | (with_reducible show LCg.CompSrc _ _ _ _ _ _ _ _ _ _ _ _ _ _) | (with_reducible show wpAny _ _ (exec (Stmt.While _ _ _ _) _) _ _ _) | (with_reducible show wpAny _ _ (exec (Stmt.For _ _ _ _ _) _) _ _ _) | (with_reducible show wpAny _ _ (execs [_, _, _] _) _ _ _) | (with_reducible show StarOf _ _ _ _ _ _))); walk1) | ((fail_if_success (first | (with_reducible show wpAny _ _ (pyIter _) _ _ _) | (with_reducible show wpAny _ _ (call (Value.ref _) _) _ _ _) | (with_reducible show LCg.CompSrc _ _ _ _ _ _ _ _ _ _ _ _ _ _) | (with_reducible show wpAny _ _ (exec (Stmt.While _ _ _ _) _) _ _ _) | (with_reducible show wpAny _ _ (exec (Stmt.For _ _ _ _ _) _) _ _ _) | (with_reducible show wpAny _ _ (execs [_, _, _] _) _ _ _) | (with_reducible show StarOf _ _ _ _ _ _))); dsimp only; walk1) | (leave1; walk_say "STEP leave1"; (try dsimp only)) | fail "no step"))
  rename Fr _ _ _ _ => F6
  rename News _ _ _ _ => N6
  refine' star_seq (ws := vt) F6 N6 (.tail _ (.head _)) rfl rfl (.inl rfl) rfl (by show vt.toArray.size ≤ sizeLine; rw [List.size_toArray]; exact Nat.le_trans hl1 (by decide)) fun h7 F7 N7 => ?_
  clear F6 N6
  (repeat' (first | (k_unfold; (try dsimp only)) | (k_end; kc_close) | ((fail_if_success (first | (with_reducible show wpAny _ _ (pyIter _) _ _ _) | (with_reducible show wpAny _ _ (call (Value.ref _) _) _ _ _) | (with_reducible show LCg.CompSrc _ _ _ _ _ _ _ _ _ _ _ _ _ _) | (with_reducible show wpAny _ _ (exec (Stmt.While _ _ _ _) _) _ _ _) | (with_reducible show wpAny _ _ (exec (Stmt.For _ _ _ _ _) _) _ _ _) | (with_reducible show wpAny _ _ (execs [_, _, _] _) _ _ _) | (with_reducible show StarOf _ _ _ _ _ _))); walk1) | ((fail_if_success (first | (with_reducible show wpAny _ _ (pyIter _) _ _ _) | (with_reducible show wpAny _ _ (call (Value.ref _) _) _ _ _) | (with_reducible show LCg.CompSrc _ _ _ _ _ _ _ _ _ _ _ _ _ _) | (with_reducible show wpAny _ _ (exec (Stmt.While _ _ _ _) _) _ _ _) | (with_reducible show wpAny _ _ (exec (Stmt.For _ _ _ _ _) _) _ _ _) | (with_reducible show wpAny _ _ (execs [_, _, _] _) _ _ _) | (with_reducible show StarOf _ _ _ _ _ _))); dsimp only; walk1) | (leave1; walk_say "STEP leave1"; (try dsimp only)) | fail "no step"))
  rw [List.append_nil]
  k_dflt (refine' Claim.use (re_claim w _ word _ vt th hst hto (Nat.le_trans hm1 (by decide))) ?k1 ?k2 ?k3 ?k4 ?k5 ?kK ?kd ?ku ?_)
  (((case k1 => k_asm); (case k2 => k_asm); (case k3 => k_asm); (case k4 => k_asm); (case k5 => k_asm); (case kK => exact rfl); (case kd => ktr_room); (case ku => ktr_units); k_whole))
  rw [hth]
  intro tr8 h8 tk8 F8 N8
  (repeat' (first | (k_unfold; (try dsimp only)) | (k_end; kc_close) | ((fail_if_success (first | (with_reducible show wpAny _ _ (pyIter _) _ _ _) | (with_reducible show wpAny _ _ (call (Value.ref _) _) _ _ _) | (with_reducible show LCg.CompSrc _ _ _ _ _ _ _ _ _ _ _ _ _ _) | (with_reducible show wpAny _ _ (exec (Stmt.While _ _ _ _) _) _ _ _) | (with_reducible show wpAny _ _ (exec (Stmt.For _ _ _ _ _) _) _ _ _) | (with_reducible show wpAny _ _ (execs [_, _, _] _) _ _ _) | (with_reducible show StarOf _ _ _ _ _ _))); walk1) | ((fail_if_success (first | (with_reducible show wpAny _ _ (pyIter _) _ _ _) | (with_reducible show wpAny _ _ (call (Value.ref _) _) _ _ _) | (with_reducible show LCg.CompSrc _ _ _ _ _ _ _ _ _ _ _ _ _ _) | (with_reducible show wpAny _ _ (exec (Stmt.While _ _ _ _) _) _ _ _) | (with_reducible show wpAny _ _ (exec (Stmt.For _ _ _ _ _) _) _ _ _) | (with_reducible show wpAny _ _ (execs [_, _, _] _) _ _ _) | (with_reducible show StarOf _ _ _ _ _ _))); dsimp only; walk1) | (leave1; walk_say "STEP leave1"; (try dsimp only)) | fail "no step"))
  · rename ((_ != _) = true) => hne
    simp at hne
  rename Fr _ _ _ _ => F9
  rename News _ _ _ _ => N9
  refine' star_seq (ws := vb) F9 N9 (.head _) rfl rfl (.inl rfl) rfl (by show vb.toArray.size ≤ sizeLine; rw [List.size_toArray]; exact Nat.le_trans hl2 (by decide)) fun h10 F10 N10 => ?_
  clear F9 N9
  (repeat' (first | (k_unfold; (try dsimp only)) | (k_end; kc_close) | ((fail_if_success (first | (with_reducible show wpAny _ _ (pyIter _) _ _ _) | (with_reducible show wpAny _ _ (call (Value.ref _) _) _ _ _) | (with_reducible show LCg.CompSrc _ _ _ _ _ _ _ _ _ _ _ _ _ _) | (with_reducible show wpAny _ _ (exec (Stmt.While _ _ _ _) _) _ _ _) | (with_reducible show wpAny _ _ (exec (Stmt.For _ _ _ _ _) _) _ _ _) | (with_reducible show wpAny _ _ (execs [_, _, _] _) _ _ _) | (with_reducible show StarOf _ _ _ _ _ _))); walk1) | ((fail_if_success (first | (with_reducible show wpAny _ _ (pyIter _) _ _ _) | (with_reducible show wpAny _ _ (call (Value.ref _) _) _ _ _) | (with_reducible show LCg.CompSrc _ _ _ _ _ _ _ _ _ _ _ _ _ _) | (with_reducible show wpAny _ _ (exec (Stmt.While _ _ _ _) _) _ _ _) | (with_reducible show wpAny _ _ (exec (Stmt.For _ _ _ _ _) _) _ _ _) | (with_reducible show wpAny _ _ (execs [_, _, _] _) _ _ _) | (with_reducible show StarOf _ _ _ _ _ _))); dsimp only; walk1) | (leave1; walk_say "STEP leave1"; (try dsimp only)) | fail "no step"))
  rw [List.append_nil]
  k_dflt (refine' Claim.use (re_claim w _ line _ vb bk hsb hbo (Nat.le_trans hm2 (by decide))) ?k1 ?k2 ?k3 ?k4 ?k5 ?kK ?kd ?ku ?_)
  (((case k1 => k_asm); (case k2 => k_asm); (case k3 => k_asm); (case k4 => k_asm); (case k5 => k_asm); (case kK => exact rfl); (case kd => ktr_room); (case ku => ktr_units); k_whole))
  rw [hbk]
  intro tr11 h11 tk11 F11 N11
  (repeat' (first | (k_unfold; (try dsimp only)) | (k_end; kc_close) | ((fail_if_success (first | (with_reducible show wpAny _ _ (pyIter _) _ _ _) | (with_reducible show wpAny _ _ (call (Value.ref _) _) _ _ _) | (with_reducible show LCg.CompSrc _ _ _ _ _ _ _ _ _ _ _ _ _ _) | (with_reducible show wpAny _ _ (exec (Stmt.While _ _ _ _) _) _ _ _) | (with_reducible show wpAny _ _ (exec (Stmt.For _ _ _ _ _) _) _ _ _) | (with_reducible show wpAny _ _ (execs [_, _, _] _) _ _ _) | (with_reducible show StarOf _ _ _ _ _ _))); walk1) | ((fail_if_success (first | (with_reducible show wpAny _ _ (pyIter _) _ _ _) | (with_reducible show wpAny _ _ (call (Value.ref _) _) _ _ _) | (with_reducible show LCg.CompSrc _ _ _ _ _ _ _ _ _ _ _ _ _ _) | (with_reducible show wpAny _ _ (exec (Stmt.While _ _ _ _) _) _ _ _) | (with_reducible show wpAny _ _ (exec (Stmt.For _ _ _ _ _) _) _ _ _) | (with_reducible show wpAny _ _ (execs [_, _, _] _) _ _ _) | (with_reducible show StarOf _ _ _ _ _ _))); dsimp only; walk1) | (leave1; walk_say "STEP leave1"; (try dsimp only)) | fail "no step"))
  · rename ((_ != _) = true) => hne
    simp at hne
  (try dsimp only)
  with_reducible refine Goes.go ?_
  exact stage4 w p loose mean mg mb L fa h₀ _ _ Q E size step word _ _ _ _ o1 o2 o3 o4 o5 hE B X T cd l0 F11 (fun p hp => N11 p (.tail _ (.tail _ hp))) d1 d2 ⟨_, d3⟩ ⟨_, d4⟩ d5 hg hw hQ
end
end Mine
end
section
theorem Mine.fresh_Stg3b : True := by
  w_top off
  k_with_none
  trivial
open PySem PySem.W PyProof.Rows PySem.Calls PySem.Spec
namespace Mine
section
set_option maxRecDepth 100000 in
set_option maxHeartbeats 8000000 in
theorem stage3b (w : World) (p : Program) (loose : List Str) (mean : ExcName → Option Value) (mg mb : Str → Option Value) (L fa : Addr) (h₀ : Heap) (m : Str → Option Value) (s : Shared) (Q : Flow → Shared → Prop) (E : Value → Shared → Prop)
    (size step : Int) (word : Str) (t1 t2 t4 : Tok) (o1 o2 o3 o4 o5 : Obj) (line : Str) (tl : Tok) (ta ba : Addr) (vt vb : List Value) (ct cb : Nat) (th bk : List Str) (M : Int) (tm : Tok)
    (hE : PassesOwn (model PySem.Challenge.rw_pe0130_01.row.prog w) (callerA.deeper (env0 L fa)) (env0 L fa) E)
    (B : Below callerA h₀ [] h₀) (X : (Mine.hd.heap_39 w.params).In h₀) (T : Top p loose mean mg mb h₀) (cd : CodeHd h₀ 72 70) (l0 : 70 < L)
    (F : Fr h₀ L s.heap (fun z => if z = Str.ofString "measure" then some (.int M tm) else if z = Str.ofString "back" then some (.ref ba) else if z = Str.ofString "there" then some (.ref ta) else if z = Str.ofString "line" then some (.str line tl) else m z))
    (N : News h₀ L s.heap [(ba, W.listOf vb.toArray cb), (ta, W.listOf vt.toArray ct), (L + 1 + 1 + 1 + 1 + 1, o5), (L + 1 + 1 + 1 + 1, o4), (L + 1 + 1 + 1, o3), (L + 1 + 1, o2), (L + 1, o1), (70, tabObj #[])])
    (d1 : o1.data = .cell (some (.int size t1))) (d2 : o2.data = .cell (some (.int step t2))) (d3 : ∃ v, o3.data = .cell v) (d4 : ∃ v, o4.data = .cell v) (d5 : o5.data = .cell (some (.str word t4)))
    (hst : StrsAre vt th) (hsb : StrsAre vb bk) (hg : Good size step) (hw : word = stairs 0 size step size) (hQ : ∀ h' tk m' tab, Fr h₀ L h' m' → News h₀ L h' [(70, tabObj tab)] → Q (.ret (.bool true)) { s with heap := h', toks := tk })
    (hth : replL word th = line) (hbk : replL line bk = word) (hto : replOk word th) (hbo : replOk line bk) (hl1 : vt.length ≤ 64) (hl2 : vb.length ≤ 64) (hM : M = (Int.gcd size step : Int))
    (heb : 0 < step → line = Txt.mul (Str.ofString "b") M) (hea : ¬ 0 < step → line = Txt.mul (Str.ofString "a") M) (hm0 : 0 ≤ M) (hm1 : M ≤ 32) :
    Goes w (callerA.deeper (env0 L fa)) (lawBody.drop 11) (env0 L fa) Q E s := by
  refine ⟨?_⟩
  revert X
  k_fill
  intro X
  obtain ⟨v3, d3⟩ := d3
  obtain ⟨v4, d4⟩ := d4
  revert hE
  unfold env0
  rw [show lawBody.drop 11 = [_, _, _, _, _] from rfl]
  rw [show lawScope = ⟨_, _, _, _, _⟩ from rfl]
  intro hE
  (repeat' (first | (k_unfold; (try dsimp only)) | (k_end; kc_close) | ((fail_if_success (first | (with_reducible show wpAny _ _ (pyIter _) _ _ _) | (with_reducible show wpAny _ _ (call (Value.ref _) _) _ _ _) | (with_reducible show LCg.CompSrc _ _ _ _ _ _ _ _ _ _ _ _ _ _) | (with_reducible show wpAny _ _ (exec (Stmt.While _ _ _ _) _) _ _ _) | (with_reducible show wpAny _ _ (exec (Stmt.For _ _ _ _ _) _) _ _ _) | (with_reducible show wpAny _ _ (execs [_, _, _, _] _) _ _ _) | (with_reducible show StarOf _ _ _ _ _ _))); walk1) | ((fail_if_success (first | (with_reducible show wpAny _ _ (pyIter _) _ _ _) | (with_reducible show wpAny _ _ (call (Value.ref _) _) _ _ _) | (with_reducible show LCg.CompSrc _ _ _ _ _ _ _ _ _ _ _ _ _ _) | (with_reducible show wpAny _ _ (exec (Stmt.While _ _ _ _) _) _ _ _) | (with_reducible show wpAny _ _ (exec (Stmt.For _ _ _ _ _) _) _ _ _) | (with_reducible show wpAny _ _ (execs [_, _, _, _] _) _ _ _) | (with_reducible show StarOf _ _ _ _ _ _))); dsimp only; walk1) | (leave1; walk_say "STEP leave1"; (try dsimp only)) | fail "no step"))
  · rename (0 < step) => hp
    rename ((_ != _) = true) => hne
    rw [← heb hp] at hne
    simp at hne
  · (try dsimp only)
    with_reducible refine Goes.go ?_
    exact stage3c w p loose mean mg mb L fa h₀ m _ Q E size step word _ _ _ o1 o2 o3 o4 o5 line tl ta ba vt vb ct cb th bk M tm hE B X T cd l0 F N d1 d2 ⟨_, d3⟩ ⟨_, d4⟩ d5 hst hsb hg hw hQ hth hbk hto hbo hl1 hl2 hM
  · rename (¬ 0 < step) => hp
    rename ((_ != _) = true) => hne
    rw [← hea hp] at hne
    simp at hne
  · (try dsimp only)
    with_reducible refine Goes.go ?_
    exact stage3c w p loose mean mg mb L fa h₀ m _ Q E size step word _ _ _ o1 o2 o3 o4 o5 line tl ta ba vt vb ct cb th bk M tm hE B X T cd l0 F N d1 d2 ⟨_, d3⟩ ⟨_, d4⟩ d5 hst hsb hg hw hQ hth hbk hto hbo hl1 hl2 hM
end
end Mine
end
section
theorem Mine.fresh_Stg3 : True := by
  w_top off
  k_with_none
  trivial
open PySem PySem.W PyProof.Rows PySem.Calls PySem.Spec
namespace Mine
section
set_option maxRecDepth 100000 in
set_option maxHeartbeats 8000000 in
theorem stage3a (w : World) (p : Program) (loose : List Str) (mean : ExcName → Option Value) (mg mb : Str → Option Value) (L fa : Addr) (h₀ : Heap) (m : Str → Option Value) (s : Shared) (Q : Flow → Shared → Prop) (E : Value → Shared → Prop)
    (size step : Int) (t1 t2 : Tok) (o1 o2 : Obj) (rest : List (Addr × Obj))
    (B : Below callerA h₀ [] h₀) (X : (Mine.hd.heap_39 w.params).In h₀) (T : Top p loose mean mg mb h₀) (l0 : 70 < L)
    (F : Fr h₀ L s.heap m)
    (N : News h₀ L s.heap ((L + 1 + 1, o2) :: (L + 1, o1) :: rest))
    (d1 : o1.data = .cell (some (.int size t1))) (d2 : o2.data = .cell (some (.int step t2)))
    (hs0 : 0 < size) (hs1 : size ≤ 32)
    (next : ∀ h tk tm, Fr h₀ L h (fun z => if z = Str.ofString "measure" then some (.int (Int.gcd size step : Int) tm) else m z) → News h₀ L h ((L + 1 + 1, o2) :: (L + 1, o1) :: rest) →
      Goes w (callerA.deeper (env0 L fa)) (lawBody.drop 11) (env0 L fa) Q E { s with heap := h, toks := tk }) :
    Goes w (callerA.deeper (env0 L fa)) (lawBody.drop 10) (env0 L fa) Q E s := by
  refine ⟨?_⟩
  revert X
  k_fill
  intro X
  unfold env0
  rw [show lawBody.drop 10 = [_, _, _, _, _, _] from rfl]
  rw [show lawScope = ⟨_, _, _, _, _⟩ from rfl]
  k_with "CompEnd" => (refine LCg.CompEnd.intro (by assumption) (by assumption) _ (fun _ hp => hp) (by assumption) trivial ?_)
  (repeat' (first | (k_unfold; (try dsimp only)) | (k_end; kc_close) | ((fail_if_success (first | (with_reducible show wpAny _ _ (pyIter _) _ _ _) | (with_reducible show wpAny _ _ (call (Value.ref _) _) _ _ _) | (with_reducible show LCg.CompSrc _ _ _ _ _ _ _ _ _ _ _ _ _ _) | (with_reducible show wpAny _ _ (exec (Stmt.While _ _ _ _) _) _ _ _) | (with_reducible show wpAny _ _ (exec (Stmt.For _ _ _ _ _) _) _ _ _) | (with_reducible show wpAny _ _ (execs [_, _, _, _, _] _) _ _ _) | (with_reducible show StarOf _ _ _ _ _ _))); walk1) | ((fail_if_success (first | (with_reducible show wpAny _ _ (pyIter _) _ _ _) | (with_reducible show wpAny _ _ (call (Value.ref _) _) _ _ _) | (with_reducible show LCg.CompSrc _ _ _ _ _ _ _ _ _ _ _ _ _ _) | (with_reducible show wpAny _ _ (exec (Stmt.While _ _ _ _) _) _ _ _) | (with_reducible show wpAny _ _ (exec (Stmt.For _ _ _ _ _) _) _ _ _) | (with_reducible show wpAny _ _ (execs [_, _, _, _, _] _) _ _ _) | (with_reducible show StarOf _ _ _ _ _ _))); dsimp only; walk1) | (leave1; walk_say "STEP leave1"; (try dsimp only)) | fail "no step"))
  rename Fr _ _ _ _ => F1
  rename News _ _ _ _ => N1
  rename IntsAre _ _ => I1
  have hne := List.length_pos_of_mem (gcd_mem (step := step) hs0)
  k_dflt (refine' kso_max F1 N1 ?l1 I1 hne ?hh ?_)
  case l1 => kso_list
  case hh => rfl
  intro h5 M t5 tk5 F5 N5 hM hM'
  obtain rfl : M = (Int.gcd size step : Int) := meas_gcd hs0 hM hM'
  clear hM hM' I1 hne F1 N1
  (repeat' (first | (k_unfold; (try dsimp only)) | (k_end; kc_close) | ((fail_if_success (first | (with_reducible show wpAny _ _ (pyIter _) _ _ _) | (with_reducible show wpAny _ _ (call (Value.ref _) _) _ _ _) | (with_reducible show LCg.CompSrc _ _ _ _ _ _ _ _ _ _ _ _ _ _) | (with_reducible show wpAny _ _ (exec (Stmt.While _ _ _ _) _) _ _ _) | (with_reducible show wpAny _ _ (exec (Stmt.For _ _ _ _ _) _) _ _ _) | (with_reducible show wpAny _ _ (execs [_, _, _, _, _] _) _ _ _) | (with_reducible show StarOf _ _ _ _ _ _))); walk1) | ((fail_if_success (first | (with_reducible show wpAny _ _ (pyIter _) _ _ _) | (with_reducible show wpAny _ _ (call (Value.ref _) _) _ _ _) | (with_reducible show LCg.CompSrc _ _ _ _ _ _ _ _ _ _ _ _ _ _) | (with_reducible show wpAny _ _ (exec (Stmt.While _ _ _ _) _) _ _ _) | (with_reducible show wpAny _ _ (exec (Stmt.For _ _ _ _ _) _) _ _ _) | (with_reducible show wpAny _ _ (execs [_, _, _, _, _] _) _ _ _) | (with_reducible show StarOf _ _ _ _ _ _))); dsimp only; walk1) | (leave1; walk_say "STEP leave1"; (try dsimp only)) | fail "no step"))
  (try dsimp only)
  rename Fr _ _ _ _ => F6
  rename News _ _ _ _ => N6
  with_reducible refine Goes.go ?_
  exact next _ _ _ F6 (fun q hq => N6 q (.tail _ hq))
end
theorem stage3 (w : World) (p : Program) (loose : List Str) (mean : ExcName → Option Value) (mg mb : Str → Option Value) (L fa : Addr) (h₀ : Heap) (m : Str → Option Value) (s : Shared) (Q : Flow → Shared → Prop) (E : Value → Shared → Prop)
    (size step : Int) (word : Str) (t1 t2 t4 : Tok) (o1 o2 o3 o4 o5 : Obj) (x y : Int) (line : Str) (tx ty tl : Tok) (ta ba : Addr) (vt vb : List Value) (ct cb : Nat) (th bk : List Str) 
    (hE : PassesOwn (model PySem.Challenge.rw_pe0130_01.row.prog w) (callerA.deeper (env0 L fa)) (env0 L fa) E)
    (B : Below callerA h₀ [] h₀) (X : (Mine.hd.heap_39 w.params).In h₀) (T : Top p loose mean mg mb h₀) (cd : CodeHd h₀ 72 70) (l0 : 70 < L)
    (F : Fr h₀ L s.heap (fun z => if z = Str.ofString "back" then some (.ref ba) else if z = Str.ofString "there" then some (.ref ta) else if z = Str.ofString "line" then some (.str line tl) else m z))
    (N : News h₀ L s.heap [(ba, W.listOf vb.toArray cb), (ta, W.listOf vt.toArray ct), (L + 1 + 1 + 1 + 1 + 1, o5), (L + 1 + 1 + 1 + 1, o4), (L + 1 + 1 + 1, o3), (L + 1 + 1, o2), (L + 1, o1), (70, tabObj #[])])
    (d1 : o1.data = .cell (some (.int size t1))) (d2 : o2.data = .cell (some (.int step t2))) (d3 : ∃ v, o3.data = .cell v) (d4 : ∃ v, o4.data = .cell v) (d5 : o5.data = .cell (some (.str word t4)))
    (hst : StrsAre vt th) (hsb : StrsAre vb bk) (hi : WInv size step word ⟨x, y, line, tx, ty, tl, ta, ba, vt, vb, ct, cb, th, bk⟩) (hg : Good size step) (hw : word = stairs 0 size step size) (hQ : ∀ h' tk m' tab, Fr h₀ L h' m' → News h₀ L h' [(70, tabObj tab)] → Q (.ret (.bool true)) { s with heap := h', toks := tk }) (hex : ¬ (0 < x ∧ 0 < y)) :
    Goes w (callerA.deeper (env0 L fa)) (lawBody.drop 10) (env0 L fa) Q E s := by
  have hs0 : 0 < size := by rcases hg with h | h | h <;> omega
  have hs1 : size ≤ 32 := by rcases hg with h | h | h <;> omega
  have hp0 : 0 ≤ step := by rcases hg with h | h | h <;> omega
  have hends := hi.ends hp0 hex
  have hgl : (Int.gcd size step : Int) ≤ 32 := Int.le_trans (Int.le_of_dvd hs0 (Int.gcd_dvd_left ..)) hs1
  have hvt := StrsAre.length hst
  have hvb := StrsAre.length hsb
  have hl1 : vt.length ≤ 64 := Nat.le_trans (Nat.le_of_eq hvt) (Nat.le_trans hi.thL (by omega))
  have hl2 : vb.length ≤ 64 := Nat.le_trans (Nat.le_of_eq hvb) (Nat.le_trans hi.bkL (by omega))
  refine stage3a w p loose mean mg mb L fa h₀ _ s Q E size step t1 t2 o1 o2 [(ba, W.listOf vb.toArray cb), (ta, W.listOf vt.toArray ct), (L + 1 + 1 + 1 + 1 + 1, o5), (L + 1 + 1 + 1 + 1, o4), (L + 1 + 1 + 1, o3), (70, tabObj #[])] B X T l0 F (fun q hq => N q (by
    simp only [List.mem_cons, List.not_mem_nil, or_false] at hq ⊢
    rcases hq with h | h | h | h | h | h | h | h <;> simp [h])) d1 d2 hs0 hs1 ?_
  intro h tk tm F6 N6
  exact stage3b w p loose mean mg mb L fa h₀ m _ Q E size step word _ _ _ o1 o2 o3 o4 o5 line tl ta ba vt vb ct cb th bk _ _ hE B X T cd l0 F6 (fun q hq => N6 q (by
    simp only [List.mem_cons, List.not_mem_nil, or_false] at hq ⊢
    rcases hq with h | h | h | h | h | h | h | h <;> simp [h])) d1 d2 d3 d4 d5 hst hsb hg hw hQ hi.th hi.bk hi.thO hi.bkO hl1 hl2 rfl hends.1 hends.2 (Int.natCast_nonneg _) hgl
end Mine
end
section
theorem Mine.fresh_Stg2 : True := by
  w_top off
  k_with_none
  trivial
open PySem PySem.W PyProof.Rows PySem.Calls PySem.Spec
namespace Mine

set_option maxRecDepth 100000 in
set_option maxHeartbeats 8000000 in
theorem stage2 (w : World) (p : Program) (loose : List Str) (mean : ExcName → Option Value) (mg mb : Str → Option Value) (L fa : Addr) (h₀ : Heap) (m : Str → Option Value) (s : Shared) (Q : Flow → Shared → Prop) (E : Value → Shared → Prop)
    (size step : Int) (word : Str) (t1 t2 t4 : Tok) (o1 o2 o3 o4 o5 : Obj) (c₀ : WSt)
    (hE : PassesOwn (model PySem.Challenge.rw_pe0130_01.row.prog w) (callerA.deeper (env0 L fa)) (env0 L fa) E)
    (B : Below callerA h₀ [] h₀) (X : (Mine.hd.heap_39 w.params).In h₀) (T : Top p loose mean mg mb h₀) (cd : CodeHd h₀ 72 70) (l0 : 70 < L)
    (F : Fr h₀ L s.heap (fun z => if z = Str.ofString "back" then some (.ref c₀.ba) else if z = Str.ofString "there" then some (.ref c₀.ta) else if z = Str.ofString "line" then some (.str c₀.line c₀.tl) else if z = Str.ofString "y" then some (.int c₀.y c₀.ty) else if z = Str.ofString "x" then some (.int c₀.x c₀.tx) else m z))
    (N : News h₀ L s.heap [(c₀.ba, W.listOf c₀.vb.toArray c₀.cb), (c₀.ta, W.listOf c₀.vt.toArray c₀.ct), (L + 1 + 1 + 1 + 1 + 1, o5), (L + 1 + 1 + 1 + 1, o4), (L + 1 + 1 + 1, o3), (L + 1 + 1, o2), (L + 1, o1), (70, tabObj #[])])
    (d1 : o1.data = .cell (some (.int size t1))) (d2 : o2.data = .cell (some (.int step t2))) (d3 : ∃ v, o3.data = .cell v) (d4 : ∃ v, o4.data = .cell v) (d5 : o5.data = .cell (some (.str word t4)))
    (hst : StrsAre c₀.vt c₀.th) (hsb : StrsAre c₀.vb c₀.bk) (hi : WInv size step word c₀)
    (hg : Good size step) (hw : word = stairs 0 size step size) (hQ : ∀ h' tk m' tab, Fr h₀ L h' m' → News h₀ L h' [(70, tabObj tab)] → Q (.ret (.bool true)) { s with heap := h', toks := tk }) :
    Goes w (callerA.deeper (env0 L fa)) (lawBody.drop 9) (env0 L fa) Q E s := by
  refine ⟨?_⟩
  revert X
  k_fill
  intro X
  obtain ⟨v3, d3⟩ := d3
  obtain ⟨v4, d4⟩ := d4
  revert hE
  unfold env0
  rw [show lawBody.drop 9 = [_, _, _, _, _, _, _] from rfl]
  rw [show lawScope = ⟨_, _, _, _, _⟩ from rfl]
  intro hE
  (repeat' (first | (k_unfold; (try dsimp only)) | (k_end; kc_close) | ((fail_if_success (first | (with_reducible show wpAny _ _ (pyIter _) _ _ _) | (with_reducible show wpAny _ _ (call (Value.ref _) _) _ _ _) | (with_reducible show LCg.CompSrc _ _ _ _ _ _ _ _ _ _ _ _ _ _) | (with_reducible show wpAny _ _ (exec (Stmt.While _ _ _ _) _) _ _ _) | (with_reducible show wpAny _ _ (exec (Stmt.For _ _ _ _ _) _) _ _ _) | (with_reducible show wpAny _ _ (execs [_, _, _, _, _, _] _) _ _ _))); walk1) | ((fail_if_success (first | (with_reducible show wpAny _ _ (pyIter _) _ _ _) | (with_reducible show wpAny _ _ (call (Value.ref _) _) _ _ _) | (with_reducible show LCg.CompSrc _ _ _ _ _ _ _ _ _ _ _ _ _ _) | (with_reducible show wpAny _ _ (exec (Stmt.While _ _ _ _) _) _ _ _) | (with_reducible show wpAny _ _ (exec (Stmt.For _ _ _ _ _) _) _ _ _) | (with_reducible show wpAny _ _ (execs [_, _, _, _, _, _] _) _ _ _))); dsimp only; walk1) | (leave1; walk_say "STEP leave1"; (try dsimp only)) | fail "no step"))
  k_dflt (refine' ksw_while (σ := WSt) (fun c => [(c.ba, W.listOf c.vb.toArray c.cb), (c.ta, W.listOf c.vt.toArray c.ct), (L + 1 + 1 + 1 + 1 + 1, o5), (L + 1 + 1 + 1 + 1, o4), (L + 1 + 1 + 1, o3), (L + 1 + 1, o2), (L + 1, o1), (70, tabObj #[])]) (fun c => [(Str.ofString "back", .ref c.ba), (Str.ofString "there", .ref c.ta), (Str.ofString "line", .str c.line c.tl), (Str.ofString "y", .int c.y c.ty), (Str.ofString "x", .int c.x c.tx)]) (fun c => StrsAre c.vt c.th ∧ StrsAre c.vb c.bk) [Str.ofString "keep"] (WInv size step word) (fun c => (c.x + c.y).toNat) c₀ F N ⟨hst, hsb⟩ ?kk hi ?turn hE)
  case kk => kst_all
  case turn =>
    rintro ⟨x, y, line, tx, ty, tl, ta, ba, vt, vb, ct, cb, th, bk⟩ u h tk ⟨hvt, hvb⟩ inv F2 N2
    dsimp only [kstB] at F2
    dsimp only at N2 hvt hvb
    have i1 : 0 ≤ x := inv.x0
    have i2 : 0 ≤ y := inv.y0
    have i3 : 0 < x + y := inv.s0
    have i4 : x + y ≤ 32 := inv.s1
    clear F N
    have hlt := StrsAre.length hvt
    have hlb := StrsAre.length hvb
    have hl1 : th.length ≤ 64 := Nat.le_trans inv.thL (by omega)
    have hl2 : bk.length ≤ 64 := Nat.le_trans inv.bkL (by omega)
    have hline : line = stairs 0 (x + y) y (x + y) := inv.line
    have hll : line.length ≤ 32 := by rw [hline, stairs_len]; omega
    (repeat' (first | (k_unfold; (try dsimp only)) | (k_end; kc_close) | ((fail_if_success (first | (with_reducible show wpAny _ _ (pyIter _) _ _ _) | (with_reducible show wpAny _ _ (call (Value.ref _) _) _ _ _) | (with_reducible show LCg.CompSrc _ _ _ _ _ _ _ _ _ _ _ _ _ _) | (with_reducible show wpAny _ _ (exec (Stmt.While _ _ _ _) _) _ _ _) | (with_reducible show wpAny _ _ (exec (Stmt.For _ _ _ _ _) _) _ _ _) | (with_reducible show wpAny _ _ (execs [_, _, _, _, _, _] _) _ _ _))); walk1) | ((fail_if_success (first | (with_reducible show wpAny _ _ (pyIter _) _ _ _) | (with_reducible show wpAny _ _ (call (Value.ref _) _) _ _ _) | (with_reducible show LCg.CompSrc _ _ _ _ _ _ _ _ _ _ _ _ _ _) | (with_reducible show wpAny _ _ (exec (Stmt.While _ _ _ _) _) _ _ _) | (with_reducible show wpAny _ _ (exec (Stmt.For _ _ _ _ _) _) _ _ _) | (with_reducible show wpAny _ _ (execs [_, _, _, _, _, _] _) _ _ _))); dsimp only; walk1) | (leave1; walk_say "STEP leave1"; (try dsimp only)) | fail "no step"))
    · rename (0 < x) => hx
      rename (0 < y) => hy
      rename (y ≤ x) => hxy
      obtain ⟨e1, e2⟩ := stairs_ge hx hy inv.rch hxy
      rw [← hline] at e1 e2
      have hle : (stairs 0 (x - y + y) y (x - y + y)).length ≤ 32 := by rw [stairs_len]; omega
      have hok : replOk line [Str.ofString "ab", Str.ofString "b"] := ⟨by omega, by decide +kernel, by decide +kernel, by decide +kernel, trivial⟩
      have hok' : replOk (stairs 0 (x - y + y) y (x - y + y)) [Str.ofString "b", Str.ofString "ab"] := ⟨by omega, by decide +kernel, by decide +kernel, by decide +kernel, trivial⟩
      have hC := fun nw t u v => re_claim w nw line t [.str (Str.ofString "ab") u, .str (Str.ofString "b") v] [Str.ofString "ab", Str.ofString "b"] (.cons _ _ (.cons _ _ .nil)) hok (by decide)
      k_dflt (refine' Claim.use (hC _ _ _ _) ?k1 ?k2 ?k3 ?k4 ?k5 ?kK ?kd ?ku ?_)
      (((case k1 => k_asm); (case k2 => k_asm); (case k3 => k_asm); (case k4 => k_asm); (case k5 => k_asm); (case kK => exact rfl); (case kd => ktr_room); (case ku => ktr_units); k_whole))
      rw [e1]
      intro tr hr tkr Fr5 Nr5
      (repeat' (first | (k_unfold; (try dsimp only)) | (k_end; kc_close) | ((fail_if_success (first | (with_reducible show wpAny _ _ (pyIter _) _ _ _) | (with_reducible show wpAny _ _ (call (Value.ref _) _) _ _ _) | (with_reducible show LCg.CompSrc _ _ _ _ _ _ _ _ _ _ _ _ _ _) | (with_reducible show wpAny _ _ (exec (Stmt.While _ _ _ _) _) _ _ _) | (with_reducible show wpAny _ _ (exec (Stmt.For _ _ _ _ _) _) _ _ _) | (with_reducible show wpAny _ _ (execs [_, _, _, _, _, _] _) _ _ _))); walk1) | ((fail_if_success (first | (with_reducible show wpAny _ _ (pyIter _) _ _ _) | (with_reducible show wpAny _ _ (call (Value.ref _) _) _ _ _) | (with_reducible show LCg.CompSrc _ _ _ _ _ _ _ _ _ _ _ _ _ _) | (with_reducible show wpAny _ _ (exec (Stmt.While _ _ _ _) _) _ _ _) | (with_reducible show wpAny _ _ (exec (Stmt.For _ _ _ _ _) _) _ _ _) | (with_reducible show wpAny _ _ (execs [_, _, _, _, _, _] _) _ _ _))); dsimp only; walk1) | (leave1; walk_say "STEP leave1"; (try dsimp only)) | fail "no step"))
      rename Fr _ _ _ _ => F6
      rename News _ _ _ _ => N6
      k_dflt (refine' Claim.use (st_claim w _ _ _ _ _ _ _ _ _ (by omega) (by omega) (by omega) (by omega) (by decide) (by decide) (by omega) (by omega)) ?k1 ?k2 ?k3 ?k4 ?k5 ?kK ?kd ?ku ?_)
      (((case k1 => k_asm); (case k2 => k_asm); (case k3 => k_asm); (case k4 => k_asm); (case k5 => k_asm); (case kK => exact rfl); (case kd => ktr_room); (case ku => ktr_units); k_whole))
      intro tr2 hr2 tkr2 Fr7 Nr7
      clear F6 N6
      (repeat' (first | (k_unfold; (try dsimp only)) | (k_end; kc_close) | ((fail_if_success (first | (with_reducible show wpAny _ _ (pyIter _) _ _ _) | (with_reducible show wpAny _ _ (call (Value.ref _) _) _ _ _) | (with_reducible show LCg.CompSrc _ _ _ _ _ _ _ _ _ _ _ _ _ _) | (with_reducible show wpAny _ _ (exec (Stmt.While _ _ _ _) _) _ _ _) | (with_reducible show wpAny _ _ (exec (Stmt.For _ _ _ _ _) _) _ _ _) | (with_reducible show wpAny _ _ (execs [_, _, _, _, _, _] _) _ _ _))); walk1) | ((fail_if_success (first | (with_reducible show wpAny _ _ (pyIter _) _ _ _) | (with_reducible show wpAny _ _ (call (Value.ref _) _) _ _ _) | (with_reducible show LCg.CompSrc _ _ _ _ _ _ _ _ _ _ _ _ _ _) | (with_reducible show wpAny _ _ (exec (Stmt.While _ _ _ _) _) _ _ _) | (with_reducible show wpAny _ _ (exec (Stmt.For _ _ _ _ _) _) _ _ _) | (with_reducible show wpAny _ _ (execs [_, _, _, _, _, _] _) _ _ _))); dsimp only; walk1) | (leave1; walk_say "STEP leave1"; (try dsimp only)) | fail "no step"))
      · rename ((_ != _) = true) => hne
        simp at hne
      rename Fr _ _ _ _ => F8
      rename News _ _ _ _ => N8
      exact ksw_end (σ := WSt) ⟨x - y, y, _, _, _, _, _, _, vt ++ [_, _], _ :: _ :: vb, 0, 0, th ++ [Str.ofString "ab", Str.ofString "b"], Str.ofString "b" :: Str.ofString "ab" :: bk⟩ F8 N8 (List.forall_mem_cons.mpr ⟨.head _, List.forall_mem_cons.mpr ⟨.tail _ (.tail _ (.head _)), fun q hq => .tail _ (.tail _ (.tail _ (.tail _ (.tail _ (.tail _ hq)))))⟩⟩) ⟨StrsAre.append' (by assumption) (.cons _ _ (.cons _ _ .nil)), .cons _ _ (.cons _ _ (by assumption))⟩ (by kst_all) (by ksw_same) (inv.ge hx hy hxy e1 e2 hok hok') (by show (x - y + y).toNat < (x + y).toNat; omega)
    · rename (0 < x) => hx
      rename (0 < y) => hy
      rename (¬ y ≤ x) => hxy
      obtain ⟨e1, e2⟩ := stairs_lt hx hy inv.rch hxy
      rw [← hline] at e1 e2
      have hle : (stairs 0 (x + (y - x)) (y - x) (x + (y - x))).length ≤ 32 := by rw [stairs_len]; omega
      have hok : replOk line [Str.ofString "ab", Str.ofString "a"] := ⟨by omega, by decide +kernel, by decide +kernel, by decide +kernel, trivial⟩
      have hok' : replOk (stairs 0 (x + (y - x)) (y - x) (x + (y - x))) [Str.ofString "a", Str.ofString "ab"] := ⟨by omega, by decide +kernel, by decide +kernel, by decide +kernel, trivial⟩
      have hC := fun nw t u v => re_claim w nw line t [.str (Str.ofString "ab") u, .str (Str.ofString "a") v] [Str.ofString "ab", Str.ofString "a"] (.cons _ _ (.cons _ _ .nil)) hok (by decide)
      k_dflt (refine' Claim.use (hC _ _ _ _) ?k1 ?k2 ?k3 ?k4 ?k5 ?kK ?kd ?ku ?_)
      (((case k1 => k_asm); (case k2 => k_asm); (case k3 => k_asm); (case k4 => k_asm); (case k5 => k_asm); (case kK => exact rfl); (case kd => ktr_room); (case ku => ktr_units); k_whole))
      rw [e1]
      intro tr hr tkr Fr5 Nr5
      (repeat' (first | (k_unfold; (try dsimp only)) | (k_end; kc_close) | ((fail_if_success (first | (with_reducible show wpAny _ _ (pyIter _) _ _ _) | (with_reducible show wpAny _ _ (call (Value.ref _) _) _ _ _) | (with_reducible show LCg.CompSrc _ _ _ _ _ _ _ _ _ _ _ _ _ _) | (with_reducible show wpAny _ _ (exec (Stmt.While _ _ _ _) _) _ _ _) | (with_reducible show wpAny _ _ (exec (Stmt.For _ _ _ _ _) _) _ _ _) | (with_reducible show wpAny _ _ (execs [_, _, _, _, _, _] _) _ _ _))); walk1) | ((fail_if_success (first | (with_reducible show wpAny _ _ (pyIter _) _ _ _) | (with_reducible show wpAny _ _ (call (Value.ref _) _) _ _ _) | (with_reducible show LCg.CompSrc _ _ _ _ _ _ _ _ _ _ _ _ _ _) | (with_reducible show wpAny _ _ (exec (Stmt.While _ _ _ _) _) _ _ _) | (with_reducible show wpAny _ _ (exec (Stmt.For _ _ _ _ _) _) _ _ _) | (with_reducible show wpAny _ _ (execs [_, _, _, _, _, _] _) _ _ _))); dsimp only; walk1) | (leave1; walk_say "STEP leave1"; (try dsimp only)) | fail "no step"))
      rename Fr _ _ _ _ => F6
      rename News _ _ _ _ => N6
      k_dflt (refine' Claim.use (st_claim w _ _ _ _ _ _ _ _ _ (by omega) (by omega) (by omega) (by omega) (by decide) (by decide) (by omega) (by omega)) ?k1 ?k2 ?k3 ?k4 ?k5 ?kK ?kd ?ku ?_)
      (((case k1 => k_asm); (case k2 => k_asm); (case k3 => k_asm); (case k4 => k_asm); (case k5 => k_asm); (case kK => exact rfl); (case kd => ktr_room); (case ku => ktr_units); k_whole))
      intro tr2 hr2 tkr2 Fr7 Nr7
      clear F6 N6
      (repeat' (first | (k_unfold; (try dsimp only)) | (k_end; kc_close) | ((fail_if_success (first | (with_reducible show wpAny _ _ (pyIter _) _ _ _) | (with_reducible show wpAny _ _ (call (Value.ref _) _) _ _ _) | (with_reducible show LCg.CompSrc _ _ _ _ _ _ _ _ _ _ _ _ _ _) | (with_reducible show wpAny _ _ (exec (Stmt.While _ _ _ _) _) _ _ _) | (with_reducible show wpAny _ _ (exec (Stmt.For _ _ _ _ _) _) _ _ _) | (with_reducible show wpAny _ _ (execs [_, _, _, _, _, _] _) _ _ _))); walk1) | ((fail_if_success (first | (with_reducible show wpAny _ _ (pyIter _) _ _ _) | (with_reducible show wpAny _ _ (call (Value.ref _) _) _ _ _) | (with_reducible show LCg.CompSrc _ _ _ _ _ _ _ _ _ _ _ _ _ _) | (with_reducible show wpAny _ _ (exec (Stmt.While _ _ _ _) _) _ _ _) | (with_reducible show wpAny _ _ (exec (Stmt.For _ _ _ _ _) _) _ _ _) | (with_reducible show wpAny _ _ (execs [_, _, _, _, _, _] _) _ _ _))); dsimp only; walk1) | (leave1; walk_say "STEP leave1"; (try dsimp only)) | fail "no step"))
      · rename ((_ != _) = true) => hne
        simp at hne
      rename Fr _ _ _ _ => F8
      rename News _ _ _ _ => N8
      exact ksw_end (σ := WSt) ⟨x, y - x, _, _, _, _, _, _, vt ++ [_, _], _ :: _ :: vb, 0, 0, th ++ [Str.ofString "ab", Str.ofString "a"], Str.ofString "a" :: Str.ofString "ab" :: bk⟩ F8 N8 (List.forall_mem_cons.mpr ⟨.head _, List.forall_mem_cons.mpr ⟨.tail _ (.tail _ (.head _)), fun q hq => .tail _ (.tail _ (.tail _ (.tail _ (.tail _ (.tail _ hq)))))⟩⟩) ⟨StrsAre.append' (by assumption) (.cons _ _ (.cons _ _ .nil)), .cons _ _ (.cons _ _ (by assumption))⟩ (by kst_all) (by ksw_same) (inv.lt hx hy hxy e1 e2 hok hok') (by show (x + (y - x)).toNat < (x + y).toNat; omega)
    all_goals (try dsimp only)
    all_goals with_reducible refine Goes.go ?_
    all_goals exact stage3 w p loose mean mg mb L fa h₀ _ _ Q E size step word t1 t2 t4 o1 o2 o3 o4 o5 x y line tx ty tl ta ba vt vb ct cb th bk hE B X T cd l0 F2 N2 d1 d2 ⟨_, d3⟩ ⟨_, d4⟩ d5 hvt hvb inv hg hw hQ (by omega)
end Mine
end
section
theorem Mine.fresh_Stg1 : True := by
  w_top off
  k_with_none
  trivial
open PySem PySem.W PyProof.Rows PySem.Calls PySem.Spec
namespace Mine
theorem frame_in3 {a b c d e : Str} {x y u v t : Option Value} {f : Str → Option Value} (h : d ≠ e) : (fun z => if z = a then x else if z = b then y else if z = c then u else if z = d then v else if z = e then t else f z) =
    fun z => if z = a then x else if z = b then y else if z = c then u else if z = e then t else if z = d then v else f z := funext fun z => by
  have := congrFun (frame_swap (x := v) (y := t) (f := f) h) z
  rw [this]
theorem start_reach_all : pairs.all (fun p => reach.contains (p.1 - p.2, p.2)) = true := by decide +kernel
theorem start_reach {size step : Int} (hg : Good size step) : (size - step, step) ∈ reach :=
  List.contains_iff_mem.1 (List.all_eq_true.1 start_reach_all _ (good_mem hg))
set_option maxRecDepth 100000 in
set_option maxHeartbeats 4000000 in
theorem stage1 (w : World) (p : Program) (loose : List Str) (mean : ExcName → Option Value) (mg mb : Str → Option Value) (L fa : Addr) (h₀ : Heap) (m : Str → Option Value) (s : Shared) (Q : Flow → Shared → Prop) (E : Value → Shared → Prop)
    (size step : Int) (t1 t2 : Tok) (o1 o2 o3 o4 o5 : Obj) (dl : Addr) (vs : List Value) (nn : Nat) (ds : List Int)
    (hE : PassesOwn (model PySem.Challenge.rw_pe0130_01.row.prog w) (callerA.deeper (env0 L fa)) (env0 L fa) E)
    (B : Below callerA h₀ [] h₀) (X : (Mine.hd.heap_39 w.params).In h₀) (T : Top p loose mean mg mb h₀) (cd : CodeHd h₀ 72 70) (l0 : 70 < L)
    (F : Fr h₀ L s.heap (fun z => if z = Str.ofString "draws" then some (.ref dl) else m z))
    (N : News h₀ L s.heap [(dl, W.listOf vs.toArray nn), (L + 1 + 1 + 1 + 1 + 1, o5), (L + 1 + 1 + 1 + 1, o4), (L + 1 + 1 + 1, o3), (L + 1 + 1, o2), (L + 1, o1), (70, tabObj #[])])
    (ldl : @Ne Nat (L + 1 + 1 + 1 + 1 + 1) dl ∧ @Ne Nat (L + 1 + 1 + 1 + 1) dl ∧ @Ne Nat (L + 1 + 1 + 1) dl ∧ @Ne Nat (L + 1 + 1) dl ∧ @Ne Nat (L + 1) dl ∧ @Ne Nat 70 dl)
    (d1 : o1.data = .cell (some (.int size t1))) (d2 : o2.data = .cell (some (.int step t2))) (d3 : ∃ v, o3.data = .cell v) (d4 : ∃ v, o4.data = .cell v) (d5 : ∃ v, o5.data = .cell v)
    (hds : IntsAre vs ds) (hd0 : ds.length ≠ 0) (hd9 : ds.length ≤ 9)
    (hg : Good size step) (hQ : ∀ h' tk m' tab, Fr h₀ L h' m' → News h₀ L h' [(70, tabObj tab)] → Q (.ret (.bool true)) { s with heap := h', toks := tk }) :
    Goes w (callerA.deeper (env0 L fa)) (lawBody.drop 3) (env0 L fa) Q E s := by
  refine ⟨?_⟩
  have l0' : @LT.lt Nat _ 70 L := l0
  obtain ⟨la1, la2, la3, la4, la5, la6⟩ := ldl
  have hs0 : 0 < size := by rcases hg with h | h | h <;> omega
  have hs1 : size ≤ 32 := by rcases hg with h | h | h <;> omega
  have hp0 : 0 ≤ step := by rcases hg with h | h | h <;> omega
  have hp1 : step ≤ 32 := by rcases hg with h | h | h <;> omega
  have hps : step < size := by rcases hg with h | h | h <;> omega
  obtain ⟨v3, d3⟩ := d3
  obtain ⟨v4, d4⟩ := d4
  obtain ⟨v5, d5⟩ := d5
  revert hE X
  k_fill
  intro hE X
  unfold env0 at hE ⊢
  rw [show lawBody.drop 3 = [_, _, _, _, _, _, _, _, _, _, _, _, _] from rfl]
  rw [show lawScope = ⟨_, _, _, _, _⟩ from rfl] at hE ⊢
  (repeat' (first | (k_unfold; (try dsimp only)) | (k_end; kc_close) | ((fail_if_success (first | (with_reducible show wpAny _ _ (pyIter _) _ _ _) | (with_reducible show wpAny _ _ (call (Value.ref _) _) _ _ _) | (with_reducible show LCg.CompSrc _ _ _ _ _ _ _ _ _ _ _ _ _ _) | (with_reducible show wpAny _ _ (exec (Stmt.While _ _ _ _) _) _ _ _) | (with_reducible show wpAny _ _ (exec (Stmt.For _ _ _ _ _) _) _ _ _) | (with_reducible show wpAny _ _ (execs [_, _, _, _, _, _, _] _) _ _ _))); walk1) | ((fail_if_success (first | (with_reducible show wpAny _ _ (pyIter _) _ _ _) | (with_reducible show wpAny _ _ (call (Value.ref _) _) _ _ _) | (with_reducible show LCg.CompSrc _ _ _ _ _ _ _ _ _ _ _ _ _ _) | (with_reducible show wpAny _ _ (exec (Stmt.While _ _ _ _) _) _ _ _) | (with_reducible show wpAny _ _ (exec (Stmt.For _ _ _ _ _) _) _ _ _) | (with_reducible show wpAny _ _ (execs [_, _, _, _, _, _, _] _) _ _ _))); dsimp only; walk1) | (leave1; walk_say "STEP leave1"; (try dsimp only)) | fail "no step"))
  rename Fr _ _ _ _ => F1
  rename News _ _ _ _ => N1
  k_dflt (refine' Claim.use (told_claim w _ dl vs nn ds size step _ _ (.head _) hds hd0 hd9 hg) ?k1 ?k2 ?k3 ?k4 ?k5 ?kK ?kd ?ku ?_)
  (((case k1 => k_asm); (case k2 => k_asm); (case k3 => k_asm); (case k4 => k_asm); (case k5 => k_asm); (case kK => exact rfl); (case kd => ktr_room); (case ku => ktr_units); k_whole))
  intro tr hr tkr F2 N2
  clear F1 N1
  (repeat' (first | (k_unfold; (try dsimp only)) | (k_end; kc_close) | ((fail_if_success (first | (with_reducible show wpAny _ _ (pyIter _) _ _ _) | (with_reducible show wpAny _ _ (call (Value.ref _) _) _ _ _) | (with_reducible show LCg.CompSrc _ _ _ _ _ _ _ _ _ _ _ _ _ _) | (with_reducible show wpAny _ _ (exec (Stmt.While _ _ _ _) _) _ _ _) | (with_reducible show wpAny _ _ (exec (Stmt.For _ _ _ _ _) _) _ _ _) | (with_reducible show wpAny _ _ (execs [_, _, _, _, _, _, _] _) _ _ _))); walk1) | ((fail_if_success (first | (with_reducible show wpAny _ _ (pyIter _) _ _ _) | (with_reducible show wpAny _ _ (call (Value.ref _) _) _ _ _) | (with_reducible show LCg.CompSrc _ _ _ _ _ _ _ _ _ _ _ _ _ _) | (with_reducible show wpAny _ _ (exec (Stmt.While _ _ _ _) _) _ _ _) | (with_reducible show wpAny _ _ (exec (Stmt.For _ _ _ _ _) _) _ _ _) | (with_reducible show wpAny _ _ (execs [_, _, _, _, _, _, _] _) _ _ _))); dsimp only; walk1) | (leave1; walk_say "STEP leave1"; (try dsimp only)) | fail "no step"))
  rename Fr _ _ _ _ => F3
  rename News _ _ _ _ => N3
  k_dflt (refine' Claim.use (st_claim w _ _ _ _ _ _ _ _ _ (by omega) (by omega) (by omega) (by omega) (by decide) (by decide) (by omega) (by omega)) ?k1 ?k2 ?k3 ?k4 ?k5 ?kK ?kd ?ku ?_)
  (((case k1 => k_asm); (case k2 => k_asm); (case k3 => k_asm); (case k4 => k_asm); (case k5 => k_asm); (case kK => exact rfl); (case kd => ktr_room); (case ku => ktr_units); k_whole))
  intro tr2 hr2 tkr2 F4 N4
  (repeat' (first | (k_unfold; (try dsimp only)) | (k_end; kc_close) | ((fail_if_success (first | (with_reducible show wpAny _ _ (pyIter _) _ _ _) | (with_reducible show wpAny _ _ (call (Value.ref _) _) _ _ _) | (with_reducible show LCg.CompSrc _ _ _ _ _ _ _ _ _ _ _ _ _ _) | (with_reducible show wpAny _ _ (exec (Stmt.While _ _ _ _) _) _ _ _) | (with_reducible show wpAny _ _ (exec (Stmt.For _ _ _ _ _) _) _ _ _) | (with_reducible show wpAny _ _ (execs [_, _, _, _, _, _, _] _) _ _ _))); walk1) | ((fail_if_success (first | (with_reducible show wpAny _ _ (pyIter _) _ _ _) | (with_reducible show wpAny _ _ (call (Value.ref _) _) _ _ _) | (with_reducible show LCg.CompSrc _ _ _ _ _ _ _ _ _ _ _ _ _ _) | (with_reducible show wpAny _ _ (exec (Stmt.While _ _ _ _) _) _ _ _) | (with_reducible show wpAny _ _ (exec (Stmt.For _ _ _ _ _) _) _ _ _) | (with_reducible show wpAny _ _ (execs [_, _, _, _, _, _, _] _) _ _ _))); dsimp only; walk1) | (leave1; walk_say "STEP leave1"; (try dsimp only)) | fail "no step"))
  · rename ((_ != _) = true) => hne
    simp at hne
  rename Fr _ _ _ _ => F5
  rename News _ _ _ _ => N5
  rename (_ = Data.cell (some (Value.str _ _))) => d5'
  rw [frame_in3 (by decide)] at F5
  have e0 : size - step + step = size := by omega
  have hinv : ∀ ta ba, WInv size step (stairs 0 size step size) ⟨size - step, step, stairs 0 size step size, tkr2, t2, tr, ta, ba, [], [], 0, 0, [], []⟩ := fun ta ba =>
    ⟨by show 0 ≤ size - step; omega, hp0, by show 0 < size - step + step; omega, by show size - step + step ≤ 32; omega, start_reach hg, by show _ = stairs 0 (size - step + step) step (size - step + step); rw [e0], by show Int.gcd (size - step) step = _; exact Int.gcd_sub_self_left step size, id, id, Nat.zero_le _, Nat.zero_le _, rfl, trivial, rfl, trivial⟩
  (try dsimp only)
  with_reducible refine Goes.go ?_
  exact stage2 w p loose mean mg mb L fa h₀ _ _ Q E size step (stairs 0 size step size) t1 t2 tr o1 o2 o3 o4 _ ⟨size - step, step, stairs 0 size step size, tkr2, t2, tr, _, _, [], [], 0, 0, [], []⟩ hE B X T cd l0 F5 (fun q hq => N5 q (by
    simp only [List.mem_cons, List.not_mem_nil, or_false] at hq ⊢
    rcases hq with h | h | h | h | h | h | h | h
    · exact .inl h
    · exact .inr (.inl h)
    · exact .inr (.inr (.inr (.inr (.inl h))))
    · exact .inr (.inr (.inr (.inr (.inr (.inl h)))))
    · exact .inr (.inr (.inr (.inr (.inr (.inr (.inl h))))))
    · exact .inr (.inr (.inr (.inr (.inr (.inr (.inr (.inl h)))))))
    · exact .inr (.inr (.inr (.inr (.inr (.inr (.inr (.inr (.inl h))))))))
    · exact .inr (.inr (.inr (.inr (.inr (.inr (.inr (.inr (.inr h))))))))))
    d1 d2 ⟨_, d3⟩ ⟨_, d4⟩ d5' .nil .nil (hinv _ _) hg rfl hQ
end Mine
end
section
theorem Mine.fresh_Stg0 : True := by
  w_top off
  k_with_none
  trivial
open PySem PySem.W PyProof.Rows PySem.Calls PySem.Spec
namespace Mine
theorem frame3 {a b c : Str} {x y u : Option Value} {f : Str → Option Value} (h1 : a ≠ b) (h2 : a ≠ c) (h3 : b ≠ c) :
    (fun z => if z = a then x else if z = b then y else if z = c then u else f z) = fun z => if z = c then u else if z = b then y else if z = a then x else f z := funext fun z => by
  by_cases e1 : z = a
  · subst e1
    rw [if_pos rfl, if_neg h2, if_neg h1, if_pos rfl]
  · by_cases e2 : z = b
    · subst e2
      rw [if_neg e1, if_pos rfl, if_neg h3, if_pos rfl]
    · simp only [e1, e2, if_false]
section
set_option maxRecDepth 100000 in
set_option maxHeartbeats 4000000 in
theorem stage0a (w : World) (p : Program) (loose : List Str) (mean : ExcName → Option Value) (mg mb : Str → Option Value) (L fa : Addr) (h₀ : Heap) (m : Str → Option Value) (s : Shared) (Q : Flow → Shared → Prop) (E : Value → Shared → Prop)
    (B : Below callerA h₀ [] h₀) (X : (Mine.hd.heap_39 w.params).In h₀) (T : Top p loose mean mg mb h₀) (l0 : 70 < L)
    (o1 o2 o3 o4 o5 : Obj) (sa : Addr) (vs : List Value) (ns : List Int)
    (F : Fr h₀ L s.heap (fun z => if z = Str.ofString "script" then some (.ref sa) else m z))
    (N : News h₀ L s.heap [(L + 1 + 1 + 1 + 1 + 1, o5), (L + 1 + 1 + 1 + 1, o4), (L + 1 + 1 + 1, o3), (L + 1 + 1, o2), (L + 1, o1), (70, tabObj #[])])
    (hl : h₀.IsList sa vs.toArray) (hi : IntsAre vs ns) (hlen : ns.length ≤ 63)
    (next : ∀ (dl : Addr) (vd : List Value) (nn : Nat) (ds : List Int) (m' : Str → Option Value) (h : Heap) (tk : Nat), Fr h₀ L h (fun z => if z = Str.ofString "draws" then some (.ref dl) else m' z) →
      News h₀ L h [(dl, W.listOf vd.toArray nn), (L + 1 + 1 + 1 + 1 + 1, o5), (L + 1 + 1 + 1 + 1, o4), (L + 1 + 1 + 1, o3), (L + 1 + 1, o2), (L + 1, o1), (70, tabObj #[])] → (@Ne Nat (L + 1 + 1 + 1 + 1 + 1) dl ∧ @Ne Nat (L + 1 + 1 + 1 + 1) dl ∧ @Ne Nat (L + 1 + 1 + 1) dl ∧ @Ne Nat (L + 1 + 1) dl ∧ @Ne Nat (L + 1) dl ∧ @Ne Nat 70 dl) → IntsAre vd ds → ds.length ≠ 0 → ds.length ≤ 9 →
      Goes w (callerA.deeper (env0 L fa)) (lawBody.drop 1) (env0 L fa) Q E { s with heap := h, toks := tk }) :
    Goes w (callerA.deeper (env0 L fa)) lawBody (env0 L fa) Q E s := by
  refine ⟨?_⟩
  have l0' : @LT.lt Nat _ 70 L := l0
  revert X
  k_fill
  intro X
  unfold env0
  rw [show lawBody = [_, _, _, _, _, _, _, _, _, _, _, _, _, _, _, _] from rfl]
  rw [show lawScope = ⟨_, _, _, _, _⟩ from rfl]
  (repeat' (first | (k_unfold; (try dsimp only)) | (k_end; kc_close) | ((fail_if_success (first | (with_reducible show wpAny _ _ (exec (Stmt.While _ _ _ _) _) _ _ _) | (with_reducible show wpAny _ _ (execs [_, _, _, _, _, _, _, _, _, _, _, _, _, _, _] _) _ _ _))); walk1) | ((fail_if_success (first | (with_reducible show wpAny _ _ (exec (Stmt.While _ _ _ _) _) _ _ _) | (with_reducible show wpAny _ _ (execs [_, _, _, _, _, _, _, _, _, _, _, _, _, _, _] _) _ _ _))); dsimp only; walk1) | (leave1; walk_say "STEP leave1"; (try dsimp only)) | fail "no step"))
  · rename (@Ne Nat _ _ ∧ _) => o7
    rename Fr _ _ _ _ => F9
    rename News _ _ _ _ => N9
    rename IntsAre ys _ => I9
    (try dsimp only)
    with_reducible refine Goes.go ?_
    exact next _ ys ys.length _ _ _ _ F9 (fun q hq => N9 q (by
      rcases List.mem_cons.mp hq with rfl | hq
      · exact .head _
      · exact .tail _ (.tail _ hq))) o7.2 I9 (by omega) (by rw [List.length_map, List.length_take]; exact Nat.min_le_left _ _)
  · rename (@LT.lt Nat _ _ _ ∧ _) => l7
    rename Fr _ _ _ _ => F9
    rename News _ _ _ _ => N9
    (try dsimp only)
    with_reducible refine Goes.go ?_
    exact next _ [_] 0 [3] _ _ _ F9 (fun q hq => N9 q (by
      rcases List.mem_cons.mp hq with rfl | hq
      · exact .head _
      · exact .tail _ (.tail _ (.tail _ hq)))) ⟨Nat.ne_of_lt l7.2.2.1, Nat.ne_of_lt l7.2.2.2.1, Nat.ne_of_lt l7.2.2.2.2.1, Nat.ne_of_lt l7.2.2.2.2.2.1, Nat.ne_of_lt l7.2.2.2.2.2.2.1, Nat.ne_of_lt l7.2.2.2.2.2.2.2⟩ (.cons _ _ .nil) (by decide) (by decide)
end
section
set_option maxRecDepth 100000 in
set_option maxHeartbeats 4000000 in
theorem stage0b (w : World) (p : Program) (loose : List Str) (mean : ExcName → Option Value) (mg mb : Str → Option Value) (L fa : Addr) (h₀ : Heap) (m : Str → Option Value) (s : Shared) (Q : Flow → Shared → Prop) (E : Value → Shared → Prop)
    (B : Below callerA h₀ [] h₀) (X : (Mine.hd.heap_39 w.params).In h₀) (T : Top p loose mean mg mb h₀) (l0 : 70 < L)
    (o1 o2 o3 o4 o5 : Obj) (dl : Addr) (vs : List Value) (nn : Nat) (ds : List Int)
    (F : Fr h₀ L s.heap (fun z => if z = Str.ofString "draws" then some (.ref dl) else m z))
    (N : News h₀ L s.heap [(dl, W.listOf vs.toArray nn), (L + 1 + 1 + 1 + 1 + 1, o5), (L + 1 + 1 + 1 + 1, o4), (L + 1 + 1 + 1, o3), (L + 1 + 1, o2), (L + 1, o1), (70, tabObj #[])])
    (ldl : @Ne Nat (L + 1 + 1 + 1 + 1 + 1) dl ∧ @Ne Nat (L + 1 + 1 + 1 + 1) dl ∧ @Ne Nat (L + 1 + 1 + 1) dl ∧ @Ne Nat (L + 1 + 1) dl ∧ @Ne Nat (L + 1) dl ∧ @Ne Nat 70 dl) (hds : IntsAre vs ds) (hd0 : ds.length ≠ 0) (hd9 : ds.length ≤ 9) (d1 : ∃ v, o1.data = .cell v)
    (next : ∀ (size low span : Int) (t1 tl ts : Tok) (o1' : Obj) (h : Heap) (tk : Nat) (m' : Str → Option Value), Fr h₀ L h (fun z => if z = Str.ofString "draws" then some (.ref dl) else if z = Str.ofString "low" then some (.int low tl) else if z = Str.ofString "span" then some (.int span ts) else m' z) →
      News h₀ L h [(dl, W.listOf vs.toArray nn), (L + 1 + 1 + 1 + 1 + 1, o5), (L + 1 + 1 + 1 + 1, o4), (L + 1 + 1 + 1, o3), (L + 1 + 1, o2), (L + 1, o1'), (70, tabObj #[])] → o1'.data = .cell (some (.int size t1)) → ((size = 16 ∧ low = 0 ∧ span = 16) ∨ (size = 8 ∧ low = 0 ∧ span = 8) ∨ (size = 32 ∧ low = 8 ∧ span = 16)) →
      Goes w (callerA.deeper (env0 L fa)) (lawBody.drop 2) (env0 L fa) Q E { s with heap := h, toks := tk }) :
    Goes w (callerA.deeper (env0 L fa)) (lawBody.drop 1) (env0 L fa) Q E s := by
  refine ⟨?_⟩
  obtain ⟨v1, d1⟩ := d1
  have l0' : @LT.lt Nat _ 70 L := l0
  revert X
  k_fill
  intro X
  unfold env0
  rw [show lawBody.drop 1 = [_, _, _, _, _, _, _, _, _, _, _, _, _, _, _] from rfl]
  rw [show lawScope = ⟨_, _, _, _, _⟩ from rfl]
  (repeat' (first | (k_unfold; (try dsimp only)) | (k_end; kc_close) | ((fail_if_success (first | (with_reducible show wpAny _ _ (exec (Stmt.While _ _ _ _) _) _ _ _) | (with_reducible show wpAny _ _ (execs [_, _, _, _, _, _, _, _, _, _, _, _, _, _] _) _ _ _))); walk1) | ((fail_if_success (first | (with_reducible show wpAny _ _ (exec (Stmt.While _ _ _ _) _) _ _ _) | (with_reducible show wpAny _ _ (execs [_, _, _, _, _, _, _, _, _, _, _, _, _, _] _) _ _ _))); dsimp only; walk1) | (leave1; walk_say "STEP leave1"; (try dsimp only)) | fail "no step"))
  · rename Fr _ _ _ _ => F9
    rename News _ _ _ _ => N9
    rename (_ = Data.cell (some (Value.int _ _))) => d9
    rw [frame3 (by decide) (by decide) (by decide)] at F9
    (try dsimp only)
    with_reducible refine Goes.go ?_
    exact next 16 0 16 _ _ _ _ _ _ _ F9 (fun q hq => N9 q (by
      rcases List.mem_cons.mp hq with rfl | hq
      · exact .tail _ (.tail _ (.tail _ (.tail _ (.head _))))
      · exact .tail _ (.tail _ (.tail _ (.tail _ (.tail _ hq)))))) d9 (.inl ⟨rfl, rfl, rfl⟩)
  · rename Fr _ _ _ _ => F9
    rename News _ _ _ _ => N9
    rename (_ = Data.cell (some (Value.int _ _))) => d9
    rw [frame3 (by decide) (by decide) (by decide)] at F9
    (try dsimp only)
    with_reducible refine Goes.go ?_
    exact next 8 0 8 _ _ _ _ _ _ _ F9 (fun q hq => N9 q (by
      rcases List.mem_cons.mp hq with rfl | hq
      · exact .tail _ (.tail _ (.tail _ (.tail _ (.head _))))
      · exact .tail _ (.tail _ (.tail _ (.tail _ (.tail _ hq)))))) d9 (.inr (.inl ⟨rfl, rfl, rfl⟩))
  · rename Fr _ _ _ _ => F9
    rename News _ _ _ _ => N9
    rename (_ = Data.cell (some (Value.int _ _))) => d9
    rw [frame3 (by decide) (by decide) (by decide)] at F9
    (try dsimp only)
    with_reducible refine Goes.go ?_
    exact next 32 8 16 _ _ _ _ _ _ _ F9 (fun q hq => N9 q (by
      rcases List.mem_cons.mp hq with rfl | hq
      · exact .tail _ (.tail _ (.tail _ (.tail _ (.head _))))
      · exact .tail _ (.tail _ (.tail _ (.tail _ (.tail _ hq)))))) d9 (.inr (.inr ⟨rfl, rfl, rfl⟩))
end
section
set_option maxRecDepth 100000 in
set_option maxHeartbeats 4000000 in
theorem stage0c (w : World) (p : Program) (loose : List Str) (mean : ExcName → Option Value) (mg mb : Str → Option Value) (L fa : Addr) (h₀ : Heap) (m : Str → Option Value) (s : Shared) (Q : Flow → Shared → Prop) (E : Value → Shared → Prop)
    (B : Below callerA h₀ [] h₀) (X : (Mine.hd.heap_39 w.params).In h₀) (T : Top p loose mean mg mb h₀) (l0 : 70 < L)
    (o1 o2 o3 o4 o5 : Obj) (dl : Addr) (vs : List Value) (nn : Nat) (ds : List Int) (low span : Int) (tl ts : Tok)
    (F : Fr h₀ L s.heap (fun z => if z = Str.ofString "draws" then some (.ref dl) else if z = Str.ofString "low" then some (.int low tl) else if z = Str.ofString "span" then some (.int span ts) else m z))
    (N : News h₀ L s.heap [(dl, W.listOf vs.toArray nn), (L + 1 + 1 + 1 + 1 + 1, o5), (L + 1 + 1 + 1 + 1, o4), (L + 1 + 1 + 1, o3), (L + 1 + 1, o2), (L + 1, o1), (70, tabObj #[])])
    (ldl : @Ne Nat (L + 1 + 1 + 1 + 1 + 1) dl ∧ @Ne Nat (L + 1 + 1 + 1 + 1) dl ∧ @Ne Nat (L + 1 + 1 + 1) dl ∧ @Ne Nat (L + 1 + 1) dl ∧ @Ne Nat (L + 1) dl ∧ @Ne Nat 70 dl) (hds : IntsAre vs ds) (hd0 : ds.length ≠ 0) (hd9 : ds.length ≤ 9) (d2 : ∃ v, o2.data = .cell v) (hl0 : 0 ≤ low) (hl1 : low ≤ 8) (hs0 : 0 < span) (hs1 : span ≤ 16)
    (next : ∀ (d : Int) (t2 : Tok) (o2' : Obj) (h : Heap) (tk : Nat), Fr h₀ L h (fun z => if z = Str.ofString "draws" then some (.ref dl) else if z = Str.ofString "low" then some (.int low tl) else if z = Str.ofString "span" then some (.int span ts) else m z) →
      News h₀ L h [(dl, W.listOf vs.toArray nn), (L + 1 + 1 + 1 + 1 + 1, o5), (L + 1 + 1 + 1 + 1, o4), (L + 1 + 1 + 1, o3), (L + 1 + 1, o2'), (L + 1, o1), (70, tabObj #[])] → o2'.data = .cell (some (.int (low + d.fmod span) t2)) →
      Goes w (callerA.deeper (env0 L fa)) (lawBody.drop 3) (env0 L fa) Q E { s with heap := h, toks := tk }) :
    Goes w (callerA.deeper (env0 L fa)) (lawBody.drop 2) (env0 L fa) Q E s := by
  refine ⟨?_⟩
  obtain ⟨v2, d2⟩ := d2
  have l0' : @LT.lt Nat _ 70 L := l0
  revert X
  k_fill
  intro X
  unfold env0
  rw [show lawBody.drop 2 = [_, _, _, _, _, _, _, _, _, _, _, _, _, _] from rfl]
  rw [show lawScope = ⟨_, _, _, _, _⟩ from rfl]
  (repeat' (first | (k_unfold; (try dsimp only)) | (k_end; kc_close) | ((fail_if_success (first | (with_reducible show wpAny _ _ (exec (Stmt.While _ _ _ _) _) _ _ _) | (with_reducible show wpAny _ _ (execs [_, _, _, _, _, _, _, _, _, _, _, _, _] _) _ _ _))); walk1) | ((fail_if_success (first | (with_reducible show wpAny _ _ (exec (Stmt.While _ _ _ _) _) _ _ _) | (with_reducible show wpAny _ _ (execs [_, _, _, _, _, _, _, _, _, _, _, _, _] _) _ _ _))); dsimp only; walk1) | (leave1; walk_say "STEP leave1"; (try dsimp only)) | fail "no step"))
  (try dsimp only)
  with_reducible refine Goes.go ?_
  exact next _ _ _ _ _ (by assumption) (by assumption) (by assumption)
end
end Mine
end
section
theorem Mine.fresh_Main1 : True := by
  w_top off
  k_with_none
  trivial
open PySem PySem.W PyProof.Rows PySem.Calls PySem.Spec
namespace Mine
theorem frame_at {a : Str} {v : Option Value} {m : Str → Option Value} (h : m a = v) : m = fun z => if z = a then v else m z := funext fun z => by
  by_cases e : z = a
  · rw [if_pos e, e, h]
  · rw [if_neg e]
theorem menu_of {size low span : Int} (h : (size = 16 ∧ low = 0 ∧ span = 16) ∨ (size = 8 ∧ low = 0 ∧ span = 8) ∨ (size = 32 ∧ low = 8 ∧ span = 16)) : 0 ≤ low ∧ low ≤ 8 ∧ 0 < span ∧ span ≤ 16 ∧ ∀ d : Int, Good size (low + d.fmod span) := by
  rcases h with ⟨rfl, rfl, rfl⟩ | ⟨rfl, rfl, rfl⟩ | ⟨rfl, rfl, rfl⟩
  · refine ⟨by decide, by decide, by decide, by decide, fun d => .inl ⟨rfl, ?_⟩⟩
    rw [Int.zero_add]
    exact ⟨Int.fmod_nonneg_of_pos d (by decide), Int.fmod_lt_of_pos d (by decide)⟩
  · refine ⟨by decide, by decide, by decide, by decide, fun d => .inr (.inl ⟨rfl, ?_⟩)⟩
    rw [Int.zero_add]
    exact ⟨Int.fmod_nonneg_of_pos d (by decide), Int.fmod_lt_of_pos d (by decide)⟩
  · refine ⟨by decide, by decide, by decide, by decide, fun d => .inr (.inr ⟨rfl, ?_⟩)⟩
    exact ⟨Int.le_add_of_nonneg_right (Int.fmod_nonneg_of_pos d (by decide)), Int.add_lt_add_left (Int.fmod_lt_of_pos d (show (0 : Int) < 16 by decide)) 8⟩
theorem stage00 (w : World) (p : Program) (loose : List Str) (mean : ExcName → Option Value) (mg mb : Str → Option Value) (L fa : Addr) (h₀ : Heap) (s : Shared) (m : Str → Option Value) (Q : Flow → Shared → Prop) (E : Value → Shared → Prop)
    (o1 o2 o3 o4 o5 : Obj) (sa : Addr) (vs : List Value) (ns : List Int)
    (hE : PassesOwn (model PySem.Challenge.rw_pe0130_01.row.prog w) (callerA.deeper (env0 L fa)) (env0 L fa) E)
    (B : Below callerA h₀ [] h₀) (X : (Mine.hd.heap_39 w.params).In h₀) (T : Top p loose mean mg mb h₀) (cd : CodeHd h₀ 72 70) (l0 : 70 < L)
    (F : Fr h₀ L s.heap m) (hm : m (Str.ofString "script") = some (.ref sa))
    (N : News h₀ L s.heap [(L + 1 + 1 + 1 + 1 + 1, o5), (L + 1 + 1 + 1 + 1, o4), (L + 1 + 1 + 1, o3), (L + 1 + 1, o2), (L + 1, o1), (70, tabObj #[])])
    (d1 : ∃ v, o1.data = .cell v) (d2 : ∃ v, o2.data = .cell v) (d3 : ∃ v, o3.data = .cell v) (d4 : ∃ v, o4.data = .cell v) (d5 : ∃ v, o5.data = .cell v)
    (hl : h₀.IsList sa vs.toArray) (hi : IntsAre vs ns) (hlen : ns.length ≤ 63)
    (hQ : ∀ h' tk m' tab, Fr h₀ L h' m' → News h₀ L h' [(70, tabObj tab)] → Q (.ret (.bool true)) { s with heap := h', toks := tk }) :
    Goes w (callerA.deeper (env0 L fa)) lawBody (env0 L fa) Q E s := by
  rw [frame_at hm] at F
  refine stage0a w p loose mean mg mb L fa h₀ m s Q E B X T l0 o1 o2 o3 o4 o5 sa vs ns F N hl hi hlen ?_
  intro dl vd nn ds m' h tk F1 N1 ln hds hd0 hd9
  refine stage0b w p loose mean mg mb L fa h₀ m' { s with heap := h, toks := tk } Q E B X T l0 o1 o2 o3 o4 o5 dl vd nn ds F1 N1 ln hds hd0 hd9 d1 ?_
  intro size low span t1 tl ts o1' h2 tk2 m2 F2 N2 d1' hsz
  refine stage0c w p loose mean mg mb L fa h₀ m2 { s with heap := h2, toks := tk2 } Q E B X T l0 o1' o2 o3 o4 o5 dl vd nn ds low span tl ts F2 N2 ln hds hd0 hd9 d2 (menu_of hsz).1 (menu_of hsz).2.1 (menu_of hsz).2.2.1 (menu_of hsz).2.2.2.1 ?_
  intro d t2 o2' h3 tk3 F3 N3 d2'
  exact stage1 w p loose mean mg mb L fa h₀ _ { s with heap := h3, toks := tk3 } Q E size (low + d.fmod span) t1 t2 o1' o2' o3 o4 o5 dl vd nn ds hE B X T cd l0 F3 N3 ln d1' d2' d3 d4 d5 hds hd0 hd9 ((menu_of hsz).2.2.2.2 d) hQ
end Mine
end
section
theorem Mine.fresh_Main2 : True := by
  w_top off
  k_with_none
  trivial
open PySem PySem.W PyProof.Rows PySem.Calls PySem.Spec
namespace Mine
set_option maxRecDepth 100000 in
set_option maxHeartbeats 8000000 in
theorem main : PySem.Challenge.rw_pe0130_01.Holds := by
  refine hd ?_
  k_go0
  all_goals try k_fold
  rename Fr _ _ _ _ => F0
  rename News _ _ _ _ => N0
  rename Heap.IsList (ghostOf _ _) _ _ => hl0
  rename IntsAre _ _ => hi0
  rename (¬ ((63 : Nat) : Int) < _) => hb0
  rename Below _ _ _ _ => B0
  rename Top _ _ _ _ _ (ghostOf _ _) => T0
  rename CodeHd _ _ _ => cd0
  rename Frag.In _ (ghostOf _ _) => X0
  rename (70 < _) => l0
  with_reducible refine Goes.go ?_
  refine stage00 _ _ _ _ _ _ _ _ _ _ _ _ _ _ _ _ _ _ _ _ _ ?hE B0 X0 T0 cd0 l0 F0 ?hm N0 ?d1 ?d2 ?d3 ?d4 ?d5 hl0 hi0 (by omega) ?hQ
  case hE => first | passes_own | with_unfolding_all passes_own
  case hm => rfl
  case d1 => exact ⟨_, by assumption⟩
  case d2 => exact ⟨_, by assumption⟩
  case d3 => exact ⟨_, by assumption⟩
  case d4 => exact ⟨_, by assumption⟩
  case d5 => exact ⟨_, by assumption⟩
  case hQ =>
    intro h' tk m' tab F' N'
    dsimp only
    refine ⟨?_, ⟨tab, (N' _ (.head _)).1⟩, trivial⟩
    rename (_ = (#[] : Array _)) => hg9
    refine goodW_bool F' hg9 (fun _ => rfl) ?hp
    case hp => refine' postW_of ?zs ?zv ?ze; (case zs => first | o_shape | wrow_shape | rfl); (case zv => wtm_val); (case ze => first | w_fin | rfl)
end Mine
end
theorem PySem.Challenge.cw_pe0130_01_holds : PySem.Challenge.rw_pe0130_01.Holds := by
  exact Mine.main
