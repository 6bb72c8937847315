import PyProof.Rows.All
import Wide.All
import OpenK.AllK
import Wide.FinOn
import PySem.Challenge.RW_xh0001_01
open PySem PySem.W PyProof.Rows PySem.Spec PySem.Calls
set_option Elab.async false
set_option rowWalk.seconds 0
set_option compiler.extract_closed false
namespace Mine
set_option maxRecDepth 100000 in
set_option maxHeartbeats 8000000 in
open_top hd for PySem.Challenge.rw_xh0001_01
end Mine
section
set_option maxRecDepth 100000
set_option linter.unusedSimpArgs false
namespace Mine
open PySem.Flt

noncomputable def pickMx (a b c : Value) : Value := let d := if ltV a b then b else a; if ltV d c then c else d
noncomputable def pickMn (a b c : Value) : Value := let d := if ltV b a then b else a; if ltV c d then c else d

section
variable {prog : Program} {w : World} {A : Around} {E : Value → Shared → Prop} {s : Shared} {Q : Value → Shared → Prop}
theorem max3_num {a b c : Value} (hh : A.handled = none) (ha : NumV a) (hb : NumV b) (hc : NumV c)
    (h : ∀ h' tk, (∀ d o, s.heap.get? d = some o → h'.get? d = some o) → Q (pickMx a b c) { s with heap := h', toks := tk }) :
    wpAny (model prog w) A (call (.builtin "max") [a, b, c]) Q E s := by
  have hT : (s.heap.push { cls := .type "tuple", data := .seq #[a, b, c] }).IsTuple s.heap.objs.size #[a, b, c] := ⟨_, Heap.get?_push_size _ rfl, rfl, 0, rfl⟩
  refine call_max_three (wpAny_pyIter_tuple hT ?_)
  have hsz : (s.heap.push { cls := .type "tuple", data := .seq #[a, b, c] }).objs.size = s.heap.objs.size + 1 := Heap.size_push ..
  refine ⟨_, [_, s.heap.objs.size], [_], _, _, _, _, rfl, Walks.tuple (A := A.in1) hh _ s.heap.objs.size (by rw [hsz]; exact Nat.ne_of_lt (Nat.lt_succ_self _)) #[a, b, c],
    ⟨⟨_, Heap.get?_push_size _ rfl, rfl, rfl⟩, hT.push _⟩, fun d hd => ?_, by simp, cmpOf_gt #[a, b, c] (by simp [ha, hb, hc]), fun v h' tk hP hk => ?_⟩
  · show d < ((s.heap.push _).push _).objs.size
    rw [Heap.size_push, hsz]
    rcases List.mem_cons.mp hd with rfl | hd
    · rw [hsz]; exact Nat.lt_succ_self _
    · rcases List.mem_cons.mp hd with rfl | hd
      · exact Nat.lt_succ_of_lt (Nat.lt_succ_self _)
      · cases hd
  · have hold : ∀ d o, s.heap.get? d = some o → h'.get? d = some o := fun d o e => by
      refine hk d o (fun hm => ?_) (Heap.get?_push_of_some _ (Heap.get?_push_of_some _ e))
      rcases List.mem_cons.mp hm with e1 | hm
      · have := Heap.lt_size e; rw [e1, hsz] at this; exact Nat.lt_irrefl _ (Nat.lt_of_succ_lt this)
      · cases hm
    have := h h' tk hold
    have hv : v = pickMx a b c := by
      unfold pickMx
      cases h1 : ltV a b <;> cases h2 : ltV a c <;> cases h3 : ltV b c <;> simp [argBest, h1, h2, h3] at hP <;> subst hP <;> simp [h1, h2, h3]
    rw [hv]; exact this
theorem min3_num {a b c : Value} (hh : A.handled = none) (ha : NumV a) (hb : NumV b) (hc : NumV c)
    (h : ∀ h' tk, (∀ d o, s.heap.get? d = some o → h'.get? d = some o) → Q (pickMn a b c) { s with heap := h', toks := tk }) :
    wpAny (model prog w) A (call (.builtin "min") [a, b, c]) Q E s := by
  have hT : (s.heap.push { cls := .type "tuple", data := .seq #[a, b, c] }).IsTuple s.heap.objs.size #[a, b, c] := ⟨_, Heap.get?_push_size _ rfl, rfl, 0, rfl⟩
  refine call_min_three (wpAny_pyIter_tuple hT ?_)
  have hsz : (s.heap.push { cls := .type "tuple", data := .seq #[a, b, c] }).objs.size = s.heap.objs.size + 1 := Heap.size_push ..
  refine ⟨_, [_, s.heap.objs.size], [_], _, _, _, _, rfl, Walks.tuple (A := A.in1) hh _ s.heap.objs.size (by rw [hsz]; exact Nat.ne_of_lt (Nat.lt_succ_self _)) #[a, b, c],
    ⟨⟨_, Heap.get?_push_size _ rfl, rfl, rfl⟩, hT.push _⟩, fun d hd => ?_, by simp, cmpOf_lt #[a, b, c] (by simp [ha, hb, hc]), fun v h' tk hP hk => ?_⟩
  · show d < ((s.heap.push _).push _).objs.size
    rw [Heap.size_push, hsz]
    rcases List.mem_cons.mp hd with rfl | hd
    · rw [hsz]; exact Nat.lt_succ_self _
    · rcases List.mem_cons.mp hd with rfl | hd
      · exact Nat.lt_succ_of_lt (Nat.lt_succ_self _)
      · cases hd
  · have hold : ∀ d o, s.heap.get? d = some o → h'.get? d = some o := fun d o e => by
      refine hk d o (fun hm => ?_) (Heap.get?_push_of_some _ (Heap.get?_push_of_some _ e))
      rcases List.mem_cons.mp hm with e1 | hm
      · have := Heap.lt_size e; rw [e1, hsz] at this; exact Nat.lt_irrefl _ (Nat.lt_of_succ_lt this)
      · cases hm
    have := h h' tk hold
    have hv : v = pickMn a b c := by
      unfold pickMn
      cases h1 : ltV b a <;> cases h2 : ltV c a <;> cases h3 : ltV c b <;> simp [argBest, h1, h2, h3] at hP <;> subst hP <;> simp [h1, h2, h3]
    rw [hv]; exact this

/-- the greatest of three ints, and its token -/
noncomputable def mxI (a b c : Int) : Int := let d := if a < b then b else a; if d < c then c else d
noncomputable def mnI (a b c : Int) : Int := let d := if b < a then b else a; if c < d then c else d
theorem mxI_ge (a b c : Int) : a ≤ mxI a b c ∧ b ≤ mxI a b c ∧ c ≤ mxI a b c ∧ (mxI a b c = a ∨ mxI a b c = b ∨ mxI a b c = c) := by
  unfold mxI; dsimp only; (repeat' split) <;> omega
theorem mnI_le (a b c : Int) : mnI a b c ≤ a ∧ mnI a b c ≤ b ∧ mnI a b c ≤ c ∧ (mnI a b c = a ∨ mnI a b c = b ∨ mnI a b c = c) := by
  unfold mnI; dsimp only; (repeat' split) <;> omega
noncomputable def ltF (a b : UInt64) : Bool := Float64.cmp a b == some .lt
noncomputable def mxF (a b c : UInt64) : UInt64 := let d := if ltF a b then b else a; if ltF d c then c else d
noncomputable def mnF (a b c : UInt64) : UInt64 := let d := if ltF b a then b else a; if ltF c d then c else d
theorem pickMx_int (a b c : Int) (t u v : Tok) : ∃ x, pickMx (.int a t) (.int b u) (.int c v) = .int (mxI a b c) x := by
  unfold pickMx mxI
  by_cases h1 : a < b <;> by_cases h2 : a < c <;> by_cases h3 : b < c <;> simp [ltV, h1, h2, h3]
theorem pickMn_int (a b c : Int) (t u v : Tok) : ∃ x, pickMn (.int a t) (.int b u) (.int c v) = .int (mnI a b c) x := by
  unfold pickMn mnI
  by_cases h1 : b < a <;> by_cases h2 : c < a <;> by_cases h3 : c < b <;> simp [ltV, h1, h2, h3]
theorem pickMx_flt (a b c : UInt64) (t u v : Tok) : ∃ x, pickMx (.float a t) (.float b u) (.float c v) = .float (mxF a b c) x := by
  unfold pickMx mxF
  have h1 : ltV (.float a t) (.float b u) = ltF a b := rfl
  have h2 : ltV (.float a t) (.float c v) = ltF a c := rfl
  have h3 : ltV (.float b u) (.float c v) = ltF b c := rfl
  simp only [h1]
  cases ltF a b
  · simp only [Bool.false_eq_true, if_false, h2]
    cases ltF a c <;> simp
  · simp only [if_true, h3]
    cases ltF b c <;> simp
theorem pickMn_flt (a b c : UInt64) (t u v : Tok) : ∃ x, pickMn (.float a t) (.float b u) (.float c v) = .float (mnF a b c) x := by
  unfold pickMn mnF
  have h1 : ltV (.float b u) (.float a t) = ltF b a := rfl
  have h2 : ltV (.float c v) (.float a t) = ltF c a := rfl
  have h3 : ltV (.float c v) (.float b u) = ltF c b := rfl
  simp only [h1]
  cases ltF b a
  · simp only [Bool.false_eq_true, if_false, h2]
    cases ltF c a <;> simp
  · simp only [if_true, h3]
    cases ltF c b <;> simp
end

section
variable {prog : Program} {w : World} {A : Around} {E : Value → Shared → Prop} {s : Shared} {Q : Value → Shared → Prop} {h₀ : Heap} {L : Addr} {m : Str → Option Value} {news : List (Addr × Obj)}
theorem max3_int_N {a b c : Int} {t u v : Tok} (hh : A.handled = none) (F : Fr h₀ L s.heap m) (N : News h₀ L s.heap news)
    (h : ∀ h' tk x, Fr h₀ L h' m → News h₀ L h' news → Q (.int (mxI a b c) x) { s with heap := h', toks := tk }) :
    wpAny (model prog w) A (call (.builtin "max") [.int a t, .int b u, .int c v]) Q E s :=
  max3_num hh (.int ..) (.int ..) (.int ..) fun h' tk hk => by
    obtain ⟨x, e⟩ := pickMx_int a b c t u v
    rw [e]; exact h h' tk x (F.grownK hk) (N.grown hk)
theorem min3_int_N {a b c : Int} {t u v : Tok} (hh : A.handled = none) (F : Fr h₀ L s.heap m) (N : News h₀ L s.heap news)
    (h : ∀ h' tk x, Fr h₀ L h' m → News h₀ L h' news → Q (.int (mnI a b c) x) { s with heap := h', toks := tk }) :
    wpAny (model prog w) A (call (.builtin "min") [.int a t, .int b u, .int c v]) Q E s :=
  min3_num hh (.int ..) (.int ..) (.int ..) fun h' tk hk => by
    obtain ⟨x, e⟩ := pickMn_int a b c t u v
    rw [e]; exact h h' tk x (F.grownK hk) (N.grown hk)
theorem max3_flt_N {a b c : UInt64} {t u v : Tok} (hh : A.handled = none) (F : Fr h₀ L s.heap m) (N : News h₀ L s.heap news)
    (h : ∀ h' tk x, Fr h₀ L h' m → News h₀ L h' news → Q (.float (mxF a b c) x) { s with heap := h', toks := tk }) :
    wpAny (model prog w) A (call (.builtin "max") [.float a t, .float b u, .float c v]) Q E s :=
  max3_num hh (.float ..) (.float ..) (.float ..) fun h' tk hk => by
    obtain ⟨x, e⟩ := pickMx_flt a b c t u v
    rw [e]; exact h h' tk x (F.grownK hk) (N.grown hk)
theorem min3_flt_N {a b c : UInt64} {t u v : Tok} (hh : A.handled = none) (F : Fr h₀ L s.heap m) (N : News h₀ L s.heap news)
    (h : ∀ h' tk x, Fr h₀ L h' m → News h₀ L h' news → Q (.float (mnF a b c) x) { s with heap := h', toks := tk }) :
    wpAny (model prog w) A (call (.builtin "min") [.float a t, .float b u, .float c v]) Q E s :=
  min3_num hh (.float ..) (.float ..) (.float ..) fun h' tk hk => by
    obtain ⟨x, e⟩ := pickMn_flt a b c t u v
    rw [e]; exact h h' tk x (F.grownK hk) (N.grown hk)
end
end Mine
end
local macro_rules | `(tactic| walk_at $s:str) => `(tactic| k_extra $s)
section
namespace Mine
noncomputable abbrev looseL : List Str := looseW hd.view_39 [Str.ofString "ONE_THIRD", Str.ofString "ONE_SIXTH", Str.ofString "TWO_THIRD"]
noncomputable abbrev pg : Program := PySem.Challenge.rw_xh0001_01.row.prog
abbrev tupO (vs : List Value) : Obj := { cls := .type "tuple", data := .seq vs.toArray }

/-- int by int, as Python's true division rounds it -/
noncomputable def dvI (a b : Int) : UInt64 := Float64.ofFrac (decide (a < 0) != decide (b < 0)) a.natAbs b.natAbs
noncomputable def fMod1 (x : UInt64) : UInt64 := (Float64.divmod x 4607182418800017408).2
noncomputable def hsvH (r g b : Int) : UInt64 :=
  if mnI r g b = mxI r g b then 0 else
  let R := mxI r g b - mnI r g b
  let rc := dvI (mxI r g b - r) R
  let gc := dvI (mxI r g b - g) R
  let bc := dvI (mxI r g b - b) R
  let h := if r = mxI r g b then Float64.sub bc gc else if g = mxI r g b then Float64.sub (Float64.add 4611686018427387904 rc) bc else Float64.sub (Float64.add 4616189618054758400 gc) rc
  fMod1 (Float64.div h 4618441417868443648)
noncomputable def hsvS (r g b : Int) : UInt64 := if mnI r g b = mxI r g b then 0 else dvI (mxI r g b - mnI r g b) (mxI r g b)

/-- what a spec of a def of ours stands on -/
structure Ctx0 (w : World) (A₀ : Around) (base : Heap) (outer : List Env) (h₀ h : Heap) (L : Addr) (m : Str → Option Value) (news : List (Addr × Obj)) (mean : ExcName → Option Value) (mg mb : Str → Option Value) (cs : Scope) : Prop where
  B : Below A₀ base outer h₀
  F : Fr h₀ L h m
  X : (hd.heap_39 w.params).In h₀
  N : News h₀ L h news
  T : Top hd.view_39 looseL mean mg mb h₀
  hk : cs.kind = .function

set_option maxRecDepth 100000 in
set_option maxHeartbeats 8000000 in
theorem warm (w : World) : PySem.Challenge.rw_xh0001_01 = PySem.Challenge.rw_xh0001_01 ∧ hd.heap_39 w.params = hd.heap_39 w.params := by
  k_fill
  exact ⟨rfl, rfl⟩
section
variable {w : World} {mean : ExcName → Option Value} {mg mb : Str → Option Value} {dp un : Nat} {gd : Option (List Code)} {cn : Str} {cs : Scope} {a : Addr} {ccd : Value} {cl : List (Str × Addr)} {outer : List Env} {A₀ : Around} {base h₀ : Heap} {L : Addr} {m : Str → Option Value} {news : List (Addr × Obj)} {s : Shared} {Q E : Value → Shared → Prop}

theorem ret_hsv {x y x' y' : UInt64} {z : Int} {t1 t2 t3 : Tok} {D : Addr} {h' : Heap} {tk' : Nat}
    (hret : ∀ x t1 t2 t3 h' tk', Fr h₀ L h' m → News h₀ L h' ((x, tupO [.float x' t1, .float y' t2, .int z t3]) :: news) → (∀ p ∈ news, p.1 < x) → Q (.ref x) { s with heap := h', toks := tk' })
    (F : Fr h₀ L h' m) (N : News h₀ L h' ((D, tupO [.float x t1, .float y t2, .int z t3]) :: news)) (lt : ∀ p ∈ news, p.1 < D) (e1 : x' = x) (e2 : y' = y) : Q (.ref D) { s with heap := h', toks := tk' } := by
  subst e1 e2
  exact hret _ _ _ _ _ _ F N lt
theorem ret_3f {x y z x' y' z' : UInt64} {t1 t2 t3 : Tok} {D : Addr} {h' : Heap} {tk' : Nat}
    (hret : ∀ x t1 t2 t3 h' tk', Fr h₀ L h' m → News h₀ L h' ((x, tupO [.float x' t1, .float y' t2, .float z' t3]) :: news) → (∀ p ∈ news, p.1 < x) → Q (.ref x) { s with heap := h', toks := tk' })
    (F : Fr h₀ L h' m) (N : News h₀ L h' ((D, tupO [.float x t1, .float y t2, .float z t3]) :: news)) (lt : ∀ p ∈ news, p.1 < D) (e1 : x' = x) (e2 : y' = y) (e3 : z' = z) : Q (.ref D) { s with heap := h', toks := tk' } := by
  subst e1 e2 e3
  exact hret _ _ _ _ _ _ F N lt
theorem ret_f {x x' : UInt64} {t1 : Tok} {h' : Heap} {tk' : Nat}
    (hret : ∀ t1 h' tk', Fr h₀ L h' m → News h₀ L h' news → Q (.float x' t1) { s with heap := h', toks := tk' })
    (F : Fr h₀ L h' m) (N : News h₀ L h' news) (e1 : x' = x) : Q (.float x t1) { s with heap := h', toks := tk' } := by
  subst e1
  exact hret _ _ _ F N

set_option maxRecDepth 100000 in
set_option maxHeartbeats 8000000 in
theorem hsv_spec (B : Below A₀ base outer h₀) (F : Fr h₀ L s.heap m) (X : (hd.heap_39 w.params).In h₀) (N : News h₀ L s.heap news) (T : Top hd.view_39 looseL mean mg mb h₀)
    (hk : cs.kind = .function) (hdp : dp + 1 < recursionLimit) (hun : un + 8 < cLine)
    {r g b : Int} {tr tg tb : Tok} (hr : 1 ≤ r) (hr' : r ≤ 16) (hg : 1 ≤ g) (hg' : g ≤ 16) (hb : 1 ≤ b) (hb' : b ≤ 16) 
    (hret : ∀ x t1 t2 t3 h' tk', Fr h₀ L h' m → News h₀ L h' ((x, tupO [.float (hsvH r g b) t1, .float (hsvS r g b) t2, .int (mxI r g b) t3]) :: news) → (∀ p ∈ news, p.1 < x) → Q (.ref x) { s with heap := h', toks := tk' }) :
    wpAny (model pg w) (ktrTop dp un gd cn cs L a ccd cl outer) (call (.ref 42) [.int r tr, .int g tg, .int b tb]) Q E s := by
  k_with_none
  k_with "call builtin:max" => ((rename News _ _ _ _ => N'); (rename Fr _ _ _ _ => F'); (first | ((with_reducible show wpAny _ _ (call _ [Value.int _ _, Value.int _ _, Value.int _ _]) _ _ _); refine max3_int_N rfl F' N' ?_) | ((with_reducible show wpAny _ _ (call _ [Value.float _ _, Value.float _ _, Value.float _ _]) _ _ _); refine max3_flt_N rfl F' N' ?_)); clear N'; intro h' tk' x' F' N'; try dsimp only)
  k_with "call builtin:min" => ((rename News _ _ _ _ => N'); (rename Fr _ _ _ _ => F'); (first | ((with_reducible show wpAny _ _ (call _ [Value.int _ _, Value.int _ _, Value.int _ _]) _ _ _); refine min3_int_N rfl F' N' ?_) | ((with_reducible show wpAny _ _ (call _ [Value.float _ _, Value.float _ _, Value.float _ _]) _ _ _); refine min3_flt_N rfl F' N' ?_)); clear N'; intro h' tk' x' F' N'; try dsimp only)
  have hmx := mxI_ge r g b
  have hmn := mnI_le r g b
  refine wpAny_call ?_
  k_dflt cell_enter
  k_steps
  all_goals (rename Fr h₀ L _ _ => kF; rename News h₀ L _ _ => kN)
  · rename mnI r g b = mxI r g b => h1
    exact ret_hsv hret kF kN (by assumption) (by simp only [hsvH, if_pos h1]) (by simp only [hsvS, if_pos h1])
  · rename mnI r g b ≠ mxI r g b => h1
    rename r = mxI r g b => h2
    exact ret_hsv hret kF kN (by assumption) (by simp only [hsvH, if_neg h1, if_pos h2, dvI, fMod1]) (by simp only [hsvS, if_neg h1, dvI])
  · rename mnI r g b ≠ mxI r g b => h1
    rename r ≠ mxI r g b => h2
    rename g = mxI r g b => h3
    exact ret_hsv hret kF kN (by assumption) (by simp only [hsvH, if_neg h1, if_neg h2, if_pos h3, dvI, fMod1]) (by simp only [hsvS, if_neg h1, dvI])
  · rename mnI r g b ≠ mxI r g b => h1
    rename r ≠ mxI r g b => h2
    rename g ≠ mxI r g b => h3
    exact ret_hsv hret kF kN (by assumption) (by simp only [hsvH, if_neg h1, if_neg h2, if_neg h3, dvI, fMod1]) (by simp only [hsvS, if_neg h1, dvI])

end
end Mine
end
section
namespace Mine
section
variable {w : World} {mean : ExcName → Option Value} {mg mb : Str → Option Value} {dp un : Nat} {gd : Option (List Code)} {cn : Str} {cs : Scope} {a : Addr} {ccd : Value} {cl : List (Str × Addr)} {outer : List Env} {A₀ : Around} {base h₀ : Heap} {L : Addr} {m : Str → Option Value} {news : List (Addr × Obj)} {s : Shared} {Q E : Value → Shared → Prop}

noncomputable def vF (x y z : UInt64) : UInt64 :=
  if (Float64.cmp (fMod1 z) 4595172819793696085 == some .lt) = true then Float64.add x (Float64.mul (Float64.mul (Float64.sub y x) (fMod1 z)) 4618441417868443648) else
  if (Float64.cmp (fMod1 z) 4602678819172646912 == some .lt) = true then y else
  if (Float64.cmp (fMod1 z) 4604180019048437077 == some .lt) = true then Float64.add x (Float64.mul (Float64.mul (Float64.sub y x) (Float64.sub 4604180019048437077 (fMod1 z))) 4618441417868443648) else x

set_option maxRecDepth 100000 in
set_option maxHeartbeats 8000000 in
theorem v_spec (B : Below A₀ base outer h₀) (F : Fr h₀ L s.heap m) (X : (hd.heap_39 w.params).In h₀) (N : News h₀ L s.heap news) (T : Top hd.view_39 looseL mean mg mb h₀)
    (hk : cs.kind = .function) (hdp : dp + 1 < recursionLimit) (hun : un + 8 < cLine)
    {x y z : UInt64} {tr tg tb : Tok}
    (hret : ∀ t1 h' tk', Fr h₀ L h' m → News h₀ L h' news → Q (.float (vF x y z) t1) { s with heap := h', toks := tk' }) :
    wpAny (model pg w) (ktrTop dp un gd cn cs L a ccd cl outer) (call (.ref 35) [.float x tr, .float y tg, .float z tb]) Q E s := by
  k_with_none
  k_with "call builtin:max" => ((rename News _ _ _ _ => N'); (rename Fr _ _ _ _ => F'); (first | ((with_reducible show wpAny _ _ (call _ [Value.int _ _, Value.int _ _, Value.int _ _]) _ _ _); refine max3_int_N rfl F' N' ?_) | ((with_reducible show wpAny _ _ (call _ [Value.float _ _, Value.float _ _, Value.float _ _]) _ _ _); refine max3_flt_N rfl F' N' ?_)); clear N'; intro h' tk' x' F' N'; try dsimp only)
  k_with "call builtin:min" => ((rename News _ _ _ _ => N'); (rename Fr _ _ _ _ => F'); (first | ((with_reducible show wpAny _ _ (call _ [Value.int _ _, Value.int _ _, Value.int _ _]) _ _ _); refine min3_int_N rfl F' N' ?_) | ((with_reducible show wpAny _ _ (call _ [Value.float _ _, Value.float _ _, Value.float _ _]) _ _ _); refine min3_flt_N rfl F' N' ?_)); clear N'; intro h' tk' x' F' N'; try dsimp only)
  have _ := hun
  refine wpAny_call ?_
  k_dflt cell_enter
  k_steps
  all_goals (rename Fr h₀ L _ _ => kF; rename News h₀ L _ _ => kN)
  all_goals exact ret_f hret kF kN (by simp only [vF, fMod1, *, if_true, if_false, Bool.false_eq_true])

theorem ret_hls {x y z x' y' z' : UInt64} {t1 t2 t3 : Tok} {D : Addr} {h' : Heap} {tk' : Nat}
    (hret : ∀ x t1 t2 t3 h' tk', Fr h₀ L h' m → News h₀ L h' ((x, tupO [.float x' t1, .float y' t2, .float z' t3]) :: news) → (∀ p ∈ news, p.1 < x) → t2 ≠ 0 → Q (.ref x) { s with heap := h', toks := tk' })
    (F : Fr h₀ L h' m) (N : News h₀ L h' ((D, tupO [.float x t1, .float y t2, .float z t3]) :: news)) (lt : ∀ p ∈ news, p.1 < D) (ht : t2 ≠ 0) (e1 : x' = x) (e2 : y' = y) (e3 : z' = z) : Q (.ref D) { s with heap := h', toks := tk' } := by
  subst e1 e2 e3
  exact hret _ _ _ _ _ _ F N lt ht
noncomputable def hlsL (r g b : UInt64) : UInt64 := Float64.div (Float64.add (mxF r g b) (mnF r g b)) 4611686018427387904
noncomputable def hlsS (r g b : UInt64) : UInt64 :=
  if (Float64.cmp (mnF r g b) (mxF r g b) == some .eq) = true then 0 else
  if (Float64.cmp (hlsL r g b) 4602678819172646912 == some .lt || Float64.cmp (hlsL r g b) 4602678819172646912 == some .eq) = true then Float64.div (Float64.sub (mxF r g b) (mnF r g b)) (Float64.add (mxF r g b) (mnF r g b))
  else Float64.div (Float64.sub (mxF r g b) (mnF r g b)) (Float64.sub (Float64.sub 4611686018427387904 (mxF r g b)) (mnF r g b))
noncomputable def hlsH (r g b : UInt64) : UInt64 :=
  if (Float64.cmp (mnF r g b) (mxF r g b) == some .eq) = true then 0 else
  let R := Float64.sub (mxF r g b) (mnF r g b)
  let rc := Float64.div (Float64.sub (mxF r g b) r) R
  let gc := Float64.div (Float64.sub (mxF r g b) g) R
  let bc := Float64.div (Float64.sub (mxF r g b) b) R
  let h := if (Float64.cmp r (mxF r g b) == some .eq) = true then Float64.sub bc gc else if (Float64.cmp g (mxF r g b) == some .eq) = true then Float64.sub (Float64.add 4611686018427387904 rc) bc else Float64.sub (Float64.add 4616189618054758400 gc) rc
  fMod1 (Float64.div h 4618441417868443648)

set_option maxRecDepth 100000 in
set_option maxHeartbeats 8000000 in
theorem hls_spec (B : Below A₀ base outer h₀) (F : Fr h₀ L s.heap m) (X : (hd.heap_39 w.params).In h₀) (N : News h₀ L s.heap news) (T : Top hd.view_39 looseL mean mg mb h₀)
    (hk : cs.kind = .function) (hdp : dp + 1 < recursionLimit) (hun : un + 8 < cLine)
    {r g b : UInt64} {tr tg tb : Tok} (hz1 : Float64.isZero (Float64.add (mxF r g b) (mnF r g b)) = false) (hz2 : Float64.isZero (Float64.sub (Float64.sub 4611686018427387904 (mxF r g b)) (mnF r g b)) = false)
    (hz3 : (Float64.cmp (mnF r g b) (mxF r g b) == some .eq) = true ∨ Float64.isZero (Float64.sub (mxF r g b) (mnF r g b)) = false)
    (hret : ∀ x t1 t2 t3 h' tk', Fr h₀ L h' m → News h₀ L h' ((x, tupO [.float (hlsH r g b) t1, .float (hlsL r g b) t2, .float (hlsS r g b) t3]) :: news) → (∀ p ∈ news, p.1 < x) → t2 ≠ 0 → Q (.ref x) { s with heap := h', toks := tk' }) :
    wpAny (model pg w) (ktrTop dp un gd cn cs L a ccd cl outer) (call (.ref 21) [.float r tr, .float g tg, .float b tb]) Q E s := by
  k_with_none
  k_with "call builtin:max" => ((rename News _ _ _ _ => N'); (rename Fr _ _ _ _ => F'); (first | ((with_reducible show wpAny _ _ (call _ [Value.int _ _, Value.int _ _, Value.int _ _]) _ _ _); refine max3_int_N rfl F' N' ?_) | ((with_reducible show wpAny _ _ (call _ [Value.float _ _, Value.float _ _, Value.float _ _]) _ _ _); refine max3_flt_N rfl F' N' ?_)); clear N'; intro h' tk' x' F' N'; try dsimp only)
  k_with "call builtin:min" => ((rename News _ _ _ _ => N'); (rename Fr _ _ _ _ => F'); (first | ((with_reducible show wpAny _ _ (call _ [Value.int _ _, Value.int _ _, Value.int _ _]) _ _ _); refine min3_int_N rfl F' N' ?_) | ((with_reducible show wpAny _ _ (call _ [Value.float _ _, Value.float _ _, Value.float _ _]) _ _ _); refine min3_flt_N rfl F' N' ?_)); clear N'; intro h' tk' x' F' N'; try dsimp only)
  have _ := hun
  refine wpAny_call ?_
  k_dflt cell_enter
  k_steps
  all_goals (rename Fr h₀ L _ _ => kF; rename News h₀ L _ _ => kN)
  all_goals exact ret_hls hret kF kN (by assumption) (Nat.succ_ne_zero _) (by simp only [hlsH, fMod1, *, if_true, if_false, Bool.false_eq_true]) (by simp only [hlsL]) (by simp only [hlsS, hlsL, *, if_true, if_false, Bool.false_eq_true])

theorem hls_spec2 (B : Below A₀ base outer h₀) (F : Fr h₀ L s.heap m) (X : (hd.heap_39 w.params).In h₀) (N : News h₀ L s.heap news) (T : Top hd.view_39 looseL mean mg mb h₀)
    (hk : cs.kind = .function) (hdp : dp + 1 < recursionLimit) (hun : un + 8 < cLine)
    {r g b H : UInt64} {tr tg tb : Tok} (hz1 : Float64.isZero (Float64.add (mxF r g b) (mnF r g b)) = false) (hz2 : Float64.isZero (Float64.sub (Float64.sub 4611686018427387904 (mxF r g b)) (mnF r g b)) = false)
    (hz3 : (Float64.cmp (mnF r g b) (mxF r g b) == some .eq) = true ∨ Float64.isZero (Float64.sub (mxF r g b) (mnF r g b)) = false) (hH : hlsH r g b = H)
    (hret : ∀ x t1 t2 t3 h' tk', Fr h₀ L h' m → News h₀ L h' ((x, tupO [.float H t1, .float (hlsL r g b) t2, .float (hlsS r g b) t3]) :: news) → (∀ p ∈ news, p.1 < x) → t2 ≠ 0 → Q (.ref x) { s with heap := h', toks := tk' }) :
    wpAny (model pg w) (ktrTop dp un gd cn cs L a ccd cl outer) (call (.ref 21) [.float r tr, .float g tg, .float b tb]) Q E s := by
  subst hH
  exact hls_spec B F X N T hk hdp hun hz1 hz2 hz3 hret
end
end Mine
end
section
namespace Mine
section
variable {w : World} {mean : ExcName → Option Value} {mg mb : Str → Option Value} {dp un : Nat} {gd : Option (List Code)} {cn : Str} {cs : Scope} {a : Addr} {ccd : Value} {cl : List (Str × Addr)} {outer : List Env} {A₀ : Around} {base h₀ : Heap} {L : Addr} {m : Str → Option Value} {news : List (Addr × Obj)} {s : Shared} {Q E : Value → Shared → Prop}


/-- the three parts that hls_to_rgb makes -/
noncomputable def h2rM2 (l sh : UInt64) : UInt64 := if (Float64.cmp l 4602678819172646912 == some .lt || Float64.cmp l 4602678819172646912 == some .eq) = true then Float64.mul l (Float64.add 4607182418800017408 sh) else Float64.sub (Float64.add l sh) (Float64.mul l sh)
noncomputable def h2r (h l sh z : UInt64) : UInt64 :=
  if (Float64.cmp sh 0 == some .eq) = true then l else vF (Float64.sub (Float64.mul 4611686018427387904 l) (h2rM2 l sh)) (h2rM2 l sh) z
set_option maxRecDepth 100000 in
set_option maxHeartbeats 8000000 in
theorem h2r_spec (B : Below A₀ base outer h₀) (F : Fr h₀ L s.heap m) (X : (hd.heap_39 w.params).In h₀) (N : News h₀ L s.heap news) (T : Top hd.view_39 looseL mean mg mb h₀)
    (hk : cs.kind = .function) (hdp : dp + 5 < recursionLimit) (hun : un + 30 < cLine)
    {h l sh : UInt64} {tr tg tb : Tok} 
    (hret : ∀ x t1 t2 t3 h' tk', Fr h₀ L h' m → News h₀ L h' ((x, tupO [.float (h2r h l sh (Float64.add h 4599676419421066581)) t1, .float (h2r h l sh h) t2, .float (h2r h l sh (Float64.sub h 4599676419421066581)) t3]) :: news) → (∀ p ∈ news, p.1 < x) → Q (.ref x) { s with heap := h', toks := tk' }) :
    wpAny (model pg w) (ktrTop dp un gd cn cs L a ccd cl outer) (call (.ref 28) [.float h tr, .float l tg, .float sh tb]) Q E s := by
  k_with_none
  k_with "call builtin:max" => ((rename News _ _ _ _ => N'); (rename Fr _ _ _ _ => F'); (first | ((with_reducible show wpAny _ _ (call _ [Value.int _ _, Value.int _ _, Value.int _ _]) _ _ _); refine max3_int_N rfl F' N' ?_) | ((with_reducible show wpAny _ _ (call _ [Value.float _ _, Value.float _ _, Value.float _ _]) _ _ _); refine max3_flt_N rfl F' N' ?_)); clear N'; intro h' tk' x' F' N'; try dsimp only)
  k_with "call builtin:min" => ((rename News _ _ _ _ => N'); (rename Fr _ _ _ _ => F'); (first | ((with_reducible show wpAny _ _ (call _ [Value.int _ _, Value.int _ _, Value.int _ _]) _ _ _); refine min3_int_N rfl F' N' ?_) | ((with_reducible show wpAny _ _ (call _ [Value.float _ _, Value.float _ _, Value.float _ _]) _ _ _); refine min3_flt_N rfl F' N' ?_)); clear N'; intro h' tk' x' F' N'; try dsimp only)
  k_with "call ref" => (k_here; (with_reducible show wpAny _ _ (call _ [Value.float _ _, Value.float _ _, Value.float _ _]) _ _ _); k_dflt (refine' v_spec ?k1 ?k2 ?k3 ?k4 ?k5 ?kK ?kd ?ku ?_; (case k1 => k_asm); (case k2 => k_asm); (case k3 => k_asm); (case k4 => k_asm); (case k5 => k_asm); (case kK => first | exact rfl | assumption); (case kd => ktr_room); (case ku => ktr_units)); intro t9 h9 tk9 F9 N9; (try dsimp only); (try k_fold))
  refine wpAny_call ?_
  k_dflt cell_enter
  k_steps
  all_goals (rename Fr h₀ L _ _ => kF; rename News h₀ L _ _ => kN)
  all_goals exact ret_3f hret kF kN (by assumption) (by simp only [h2r, h2rM2, *, if_true, if_false, Bool.false_eq_true]) (by simp only [h2r, h2rM2, *, if_true, if_false, Bool.false_eq_true]) (by simp only [h2r, h2rM2, *, if_true, if_false, Bool.false_eq_true])

/-- a number of Python's: an int or a float -/
inductive Num
  | I (n : Int)
  | F (x : UInt64)
noncomputable def Num.Is : Num → Value → Prop
  | .I n, v => ∃ t, v = .int n t
  | .F x, v => ∃ t, v = .float x t
noncomputable def trI (x : UInt64) : Int := Flt.toInt Float64.truncOf x
noncomputable def s2r (h sh : UInt64) (v : Int) : Num × Num × Num :=
  if (Float64.cmp sh 0 == some .eq) = true then (.I v, .I v, .I v) else
  let H := Float64.mul h 4618441417868443648
  let i := trI H
  let f := Float64.sub H (Float64.ofInt i)
  let p := Num.F (Float64.mul (Float64.ofInt v) (Float64.sub 4607182418800017408 sh))
  let q := Num.F (Float64.mul (Float64.ofInt v) (Float64.sub 4607182418800017408 (Float64.mul sh f)))
  let t := Num.F (Float64.mul (Float64.ofInt v) (Float64.sub 4607182418800017408 (Float64.mul sh (Float64.sub 4607182418800017408 f))))
  if i.fmod 6 = 0 then (.I v, t, p) else if i.fmod 6 = 1 then (q, .I v, p) else if i.fmod 6 = 2 then (p, .I v, t) else
  if i.fmod 6 = 3 then (p, q, .I v) else if i.fmod 6 = 4 then (t, p, .I v) else (.I v, p, q)
theorem ret_s2r {x y z : Num} {p : Num × Num × Num} {u v w : Value} {D : Addr} {h' : Heap} {tk' : Nat}
    (hret : ∀ x u v w h' tk', p.1.Is u → p.2.1.Is v → p.2.2.Is w → Fr h₀ L h' m → News h₀ L h' ((x, tupO [u, v, w]) :: news) → (∀ p ∈ news, p.1 < x) → Q (.ref x) { s with heap := h', toks := tk' })
    (F : Fr h₀ L h' m) (N : News h₀ L h' ((D, tupO [u, v, w]) :: news)) (lt : ∀ p ∈ news, p.1 < D) (e : p = (x, y, z)) (h1 : x.Is u) (h2 : y.Is v) (h3 : z.Is w) : Q (.ref D) { s with heap := h', toks := tk' } := by
  subst e
  exact hret _ _ _ _ _ _ h1 h2 h3 F N lt
theorem not_mod6 {i : Int} (h0 : i ≠ 0) (h1 : i ≠ 1) (h2 : i ≠ 2) (h3 : i ≠ 3) (h4 : i ≠ 4) (h5 : i ≠ 5) : ¬ (0 ≤ i ∧ i < 6) := by omega
theorem isI {n : Int} {t : Tok} : (Num.I n).Is (.int n t) := ⟨t, rfl⟩
theorem isF {x : UInt64} {t : Tok} : (Num.F x).Is (.float x t) := ⟨t, rfl⟩
set_option maxRecDepth 100000 in
set_option maxHeartbeats 8000000 in
theorem s2r_spec (B : Below A₀ base outer h₀) (F : Fr h₀ L s.heap m) (X : (hd.heap_39 w.params).In h₀) (N : News h₀ L s.heap news) (T : Top hd.view_39 looseL mean mg mb h₀)
    (hk : cs.kind = .function) (hdp : dp + 5 < recursionLimit) (hun : un + 30 < cLine)
    {h sh : UInt64} {v : Int} {tr tg tb : Tok} (hv : 1 ≤ v) (hv' : v ≤ 16) (hz1 : Float64.isNaN (Float64.mul h 4618441417868443648) = false) (hz2 : Float64.isInf (Float64.mul h 4618441417868443648) = false) (hz3 : Float64.isFinite (Float64.mul h 4618441417868443648) = true)
    (hz4 : (Flt.toInt Float64.truncOf (Float64.mul h 4618441417868443648)).natAbs < 100)
    (hret : ∀ x u v' w h' tk', (s2r h sh v).1.Is u → (s2r h sh v).2.1.Is v' → (s2r h sh v).2.2.Is w → Fr h₀ L h' m → News h₀ L h' ((x, tupO [u, v', w]) :: news) → (∀ p ∈ news, p.1 < x) → Q (.ref x) { s with heap := h', toks := tk' }) :
    wpAny (model pg w) (ktrTop dp un gd cn cs L a ccd cl outer) (call (.ref 49) [.float h tr, .float sh tg, .int v tb]) Q E s := by
  k_with_none
  k_with "call builtin:max" => ((rename News _ _ _ _ => N'); (rename Fr _ _ _ _ => F'); (first | ((with_reducible show wpAny _ _ (call _ [Value.int _ _, Value.int _ _, Value.int _ _]) _ _ _); refine max3_int_N rfl F' N' ?_) | ((with_reducible show wpAny _ _ (call _ [Value.float _ _, Value.float _ _, Value.float _ _]) _ _ _); refine max3_flt_N rfl F' N' ?_)); clear N'; intro h' tk' x' F' N'; try dsimp only)
  k_with "call builtin:min" => ((rename News _ _ _ _ => N'); (rename Fr _ _ _ _ => F'); (first | ((with_reducible show wpAny _ _ (call _ [Value.int _ _, Value.int _ _, Value.int _ _]) _ _ _); refine min3_int_N rfl F' N' ?_) | ((with_reducible show wpAny _ _ (call _ [Value.float _ _, Value.float _ _, Value.float _ _]) _ _ _); refine min3_flt_N rfl F' N' ?_)); clear N'; intro h' tk' x' F' N'; try dsimp only)
  k_with "call ref" => (k_here; (with_reducible show wpAny _ _ (call _ [Value.float _ _, Value.float _ _, Value.float _ _]) _ _ _); k_dflt (refine' v_spec ?k1 ?k2 ?k3 ?k4 ?k5 ?kK ?kd ?ku ?_; (case k1 => k_asm); (case k2 => k_asm); (case k3 => k_asm); (case k4 => k_asm); (case k5 => k_asm); (case kK => first | exact rfl | assumption); (case kd => ktr_room); (case ku => ktr_units)); intro t9 h9 tk9 F9 N9; (try dsimp only); (try k_fold))
  have _ := hdp
  have _ := hun
  have hm : 0 ≤ (Flt.toInt Float64.truncOf (Float64.mul h 4618441417868443648)).fmod 6 ∧ (Flt.toInt Float64.truncOf (Float64.mul h 4618441417868443648)).fmod 6 < 6 := ⟨Int.fmod_nonneg_of_pos _ (by decide), Int.fmod_lt_of_pos _ (by decide)⟩
  refine wpAny_call ?_
  k_dflt cell_enter
  k_steps
  all_goals (rename Fr h₀ L _ _ => kF; rename News h₀ L _ _ => kN)
  all_goals first | (refine absurd hm (not_mod6 ?_ ?_ ?_ ?_ ?_ ?_) <;> assumption) | exact ret_s2r hret kF kN (by assumption) (by simp only [s2r, trI, *, if_true, if_false, Bool.false_eq_true, ne_eq]; first | rfl | decide) (by first | exact isI | exact isF) (by first | exact isI | exact isF) (by first | exact isI | exact isF)
end
end Mine
end
section
namespace Mine
noncomputable def unitF : UInt64 := 4589168020290535424
noncomputable def qF (k : Int) (x : UInt64) : Int := (trI (Float64.add (Float64.mul (Float64.ofInt k) x) (Float64.ofInt 1))).fdiv 2
noncomputable def qN (k : Int) : Num → Int
  | .I n => (k * n + 1).fdiv 2
  | .F x => qF k x
noncomputable def scl (r : Int) : UInt64 := Float64.mul (Float64.ofInt r) unitF
noncomputable def finN (k : Int) : Num → Bool
  | .I n => decide (1 ≤ n) && decide (n ≤ 16)
  | .F x => Float64.isFinite (Float64.add (Float64.mul (Float64.ofInt k) x) (Float64.ofInt 1))
noncomputable def okN (k : Num) (x : Int) : Bool := qN 2000 k == 1000 * x && finN 2000 k
noncomputable def okAt (r g b : Int) : Bool :=
  let R := scl r; let G := scl g; let B := scl b
  let H := hsvH r g b; let S := hsvS r g b; let V := mxI r g b
  let H2 := hlsH R G B; let L2 := hlsL R G B; let S2 := hlsS R G B
  !Float64.isZero (Float64.add (mxF R G B) (mnF R G B)) && !Float64.isZero (Float64.sub (Float64.sub 4611686018427387904 (mxF R G B)) (mnF R G B)) &&
  ((Float64.cmp (mnF R G B) (mxF R G B) == some .eq) || !Float64.isZero (Float64.sub (mxF R G B) (mnF R G B))) &&
  Float64.isFinite (Float64.mul H 4618441417868443648) && (trI (Float64.mul H 4618441417868443648)).natAbs < 100 &&
  Float64.isFinite (Float64.add (Float64.mul (Float64.ofInt 720000) H) (Float64.ofInt 1)) && H2 == H &&
  (Float64.cmp H2 H == some .eq) && (Float64.cmpInt H 0 == some .gt || Float64.cmpInt H 0 == some .eq) && (Float64.cmpInt H 1 == some .lt) &&
  okN (s2r H S V).1 r && okN (s2r H S V).2.1 g && okN (s2r H S V).2.2 b &&
  okN (.F (Float64.mul (Float64.ofInt 16) (h2r H2 L2 S2 (Float64.add H2 4599676419421066581)))) r &&
  okN (.F (Float64.mul (Float64.ofInt 16) (h2r H2 L2 S2 H2))) g &&
  okN (.F (Float64.mul (Float64.ofInt 16) (h2r H2 L2 S2 (Float64.sub H2 4599676419421066581)))) b
noncomputable def rng (a : Int) (n : Nat) : List Int := (List.range n).map fun (i : Nat) => a + (i : Int)
noncomputable def allW (w : Int) : Bool := (rng (w-3) 7).all fun x => (rng (w-3) 7).all fun y => okAt x y w && okAt x w y && okAt w x y


end Mine
end
section
set_option maxRecDepth 100000
set_option linter.unusedSimpArgs false
namespace Mine

section
variable {M : Model} {A : Around} {E : Value → Shared → Prop} {s : Shared} {env : Env} {Q : Flow → Shared → Prop}
/-- the middle of a block of statements -/
noncomputable def AtMid (Mid : Shared → Prop) (fl : Flow) (s : Shared) : Prop := fl = .next ∧ Mid s
theorem AtMid.intro {Mid : Shared → Prop} {s : Shared} (h : Mid s) : AtMid Mid .next s := ⟨rfl, h⟩
theorem seqWp {Γ : PySem.Ctx} (hΓ : Γ.In A) (b : List Stmt) (Mid : Shared → Prop) (h2 : ∀ s', Mid s' → wpAny M A (execs b env) Q E s') :
    ∀ (a : List Stmt) (p : Pos) (s : Shared), Sem.wp M Γ (execs a env) (fun fl _ s' => AtMid Mid fl s') (fun e _ s' => E e s') p s → Sem.wp M Γ (execs (a ++ b) env) (fun fl _ s' => Q fl s') (fun e _ s' => E e s') p s
  | [], p, s, h => by
    simp only [execs, Sem.wp_pure'] at h
    exact h2 s h.2 Γ p hΓ
  | st :: a, p, s, h => by
    show Sem.wp M Γ (execs (st :: (a ++ b)) env) _ _ p s
    rw [execs_cons, Sem.wp_bind'] at h ⊢
    refine Sem.wp_mono M Γ _ (fun f p' s' h' => ?_) (fun _ _ _ h' => h') _ _ h
    cases f with
    | next => exact seqWp hΓ b Mid h2 a p' s' h'
    | ret v => simp only [Sem.wp_pure'] at h'; exact absurd h'.1 (by simp)
    | brk => simp only [Sem.wp_pure'] at h'; exact absurd h'.1 (by simp)
    | cont => simp only [Sem.wp_pure'] at h'; exact absurd h'.1 (by simp)
theorem seqMid {a b : List Stmt} (Mid : Shared → Prop) (h1 : wpAny M A (execs a env) (AtMid Mid) E s) (h2 : ∀ s', Mid s' → wpAny M A (execs b env) Q E s') : wpAny M A (execs (a ++ b) env) Q E s :=
  fun Γ p hΓ => seqWp hΓ b Mid h2 a p s (h1 Γ p hΓ)
theorem seq4 {s1 s2 s3 s4 : Stmt} {b : List Stmt} (Mid : Shared → Prop) (h1 : wpAny M A (execs [s1, s2, s3, s4] env) (AtMid Mid) E s) (h2 : ∀ s', Mid s' → wpAny M A (execs b env) Q E s') : wpAny M A (execs (s1 :: s2 :: s3 :: s4 :: b) env) Q E s :=
  seqMid (a := [s1, s2, s3, s4]) Mid h1 h2
theorem seq1 {s1 : Stmt} {b : List Stmt} (Mid : Shared → Prop) (h1 : wpAny M A (execs [s1] env) (AtMid Mid) E s) (h2 : ∀ s', Mid s' → wpAny M A (execs b env) Q E s') : wpAny M A (execs (s1 :: b) env) Q E s :=
  seqMid (a := [s1]) Mid h1 h2
end

/-- a map of names that tells what it tells of the written ones -/
noncomputable def ov (ps : List (Str × Value)) (u : Str → Option Value) : Str → Option Value := fun z => match ps.lookup z with | some v => some v | none => u z
noncomputable def Agree (m : Str → Option Value) (ps : List (Str × Value)) : Prop := ∀ p ∈ ps, m p.1 = some p.2
theorem mem_of_lookup {z : Str} {v : Value} : ∀ {ps : List (Str × Value)}, ps.lookup z = some v → (z, v) ∈ ps
  | [], h => by cases h
  | (x, w) :: r, h => by
    rw [List.lookup_cons] at h
    cases hb : z == x with
    | true =>
      simp only [hb] at h
      rw [eq_of_beq hb, ← Option.some.inj h]
      exact List.mem_cons_self
    | false => simp only [hb] at h; exact List.mem_cons_of_mem _ (mem_of_lookup h)
theorem Agree.ov {m : Str → Option Value} {ps : List (Str × Value)} (h : Agree m ps) : m = ov ps m := by
  funext z
  unfold Mine.ov
  cases e : ps.lookup z with
  | none => rfl
  | some v => exact h _ (mem_of_lookup e)
theorem Agree.nil {m : Str → Option Value} : Agree m [] := fun _ h => nomatch h
theorem Agree.cons {m : Str → Option Value} {x : Str} {v : Value} {ps : List (Str × Value)} (h : m x = some v) (r : Agree m ps) : Agree m ((x, v) :: ps) := fun p hp => by
  rcases List.mem_cons.mp hp with rfl | hp
  · exact h
  · exact r p hp

noncomputable def Stop (P : Prop) : Prop := P
theorem Stop.out {P : Prop} (h : Stop P) : P := h
theorem Stop.in {P : Prop} (h : P) : Stop P := h

section
variable {K : Type} [DecidableEq K]
theorem valueAt_cons (a : K) (b : Value) (r : List (K × Value)) (k : K) : valueAt ((a, b) :: r) k = if a = k then some b else valueAt r k := by
  unfold valueAt
  rw [List.find?_cons]
  by_cases h : a = k <;> simp [h]
theorem valueAt_map (kvs : List (K × Value)) (k k' : K) (v : Value) : valueAt (kvs.map fun kv => if kv.1 = k then (kv.1, v) else kv) k' = if k' = k then (valueAt kvs k).map (fun _ => v) else valueAt kvs k' := by
  induction kvs with
  | nil => by_cases h : k' = k <;> simp [h, valueAt]
  | cons x r ih =>
    obtain ⟨a, b⟩ := x
    rw [List.map_cons, valueAt_cons, valueAt_cons]
    by_cases h : a = k
    · simp only [h, if_true]
      rw [valueAt_cons, ih]
      by_cases h2 : k' = k
      · simp [h2]
      · have h3 : ¬ k = k' := fun e => h2 e.symm
        simp [h2, h3]
    · simp only [h, if_false]
      rw [valueAt_cons, ih]
      by_cases h2 : k' = k
      · simp [h2, h]
      · simp [h2]
theorem valueAt_append (kvs : List (K × Value)) (k k' : K) (v : Value) : valueAt (kvs ++ [(k, v)]) k' = (valueAt kvs k').or (if k' = k then some v else none) := by
  induction kvs with
  | nil =>
    rw [List.nil_append, valueAt_cons]
    by_cases h : k' = k
    · simp [h, valueAt]
    · have h3 : ¬ k = k' := fun e => h e.symm
      simp [h, h3, valueAt]
  | cons x r ih =>
    obtain ⟨a, b⟩ := x
    rw [List.cons_append, valueAt_cons, valueAt_cons, ih]
    by_cases h : a = k' <;> simp [h]
theorem valueAt_stored (kvs : List (K × Value)) (k k' : K) (v : Value) : valueAt (stored kvs k v) k' = if k' = k then some v else valueAt kvs k' := by
  have hs := valueAt_isSome_eq_any kvs k
  unfold stored
  by_cases ha : kvs.any (fun kv => kv.1 = k) = true
  · rw [if_pos ha, valueAt_map]
    by_cases h : k' = k
    · simp only [h, if_true]
      rw [ha] at hs
      obtain ⟨x, hx⟩ := Option.isSome_iff_exists.mp hs
      rw [hx]; rfl
    · simp [h]
  · rw [if_neg ha, valueAt_append]
    by_cases h : k' = k
    · subst h
      have : valueAt kvs k' = none := by
        cases e : valueAt kvs k' with
        | none => rfl
        | some y => rw [e] at hs; exact absurd hs.symm ha
      simp [this]
    · simp [h]
end

/-- a dict that tells f t for the first n keys from -24 on -/
noncomputable def SeenK (kvs : List (Int × Value)) (n : Nat) (f : Nat → Int) : Prop := kvs.length ≤ n ∧ ∀ t : Nat, t < n → ∃ tk, valueAt kvs ((t : Int) - 24) = some (.int (f t) tk)
theorem SeenK.nil {f : Nat → Int} : SeenK [] 0 f := ⟨Nat.le_refl _, fun t h => absurd h (Nat.not_lt_zero t)⟩
theorem SeenK.put {kvs : List (Int × Value)} {n : Nat} {f : Nat → Int} {k x : Int} {tk : Tok} (h : SeenK kvs n f) (hk : k = (n : Int) - 24) (hx : x = f n) : SeenK (stored kvs k (.int x tk)) (n + 1) f := by
  subst hk hx
  refine ⟨Nat.le_trans (stored_length_le _ _ _) (Nat.succ_le_succ h.1), fun t ht => ?_⟩
  rw [valueAt_stored]
  by_cases e : t = n
  · subst e; exact ⟨tk, by simp⟩
  · obtain ⟨u, hu⟩ := h.2 t (by omega)
    exact ⟨u, by rw [if_neg (by omega)]; exact hu⟩
theorem SeenK.line {kvs : List (Int × Value)} {n : Nat} {f : Nat → Int} (h : SeenK kvs n f) (hn : n ≤ 1000) : kvs.length ≤ sizeLine := by
  rw [sizeLine_eq]; have := h.1; omega
end Mine
end
section
set_option maxRecDepth 100000
set_option linter.unusedSimpArgs false
namespace Mine
noncomputable def TEnd (P : Flow → Shared → Prop) (f : Flow) (s : Shared) : Prop := P f s
theorem gen_post {α : Type} {M : Model} {A : Around} {c : Sem α} {P : α → Shared → Prop} {E : Value → Shared → Prop} {s : Shared} (h : ∀ Q : α → Shared → Prop, (∀ f s, P f s → Q f s) → wpAny M A c Q E s) : wpAny M A c P E s := h P fun _ _ h => h
theorem TEnd.in {P : Flow → Shared → Prop} {f : Flow} {s : Shared} (h : P f s) : TEnd P f s := h
section
variable {prog : Program} {w : World} {A : Around} {E : Value → Shared → Prop} {s : Shared} {env : Env} {h₀ : Heap} {x : Str} {body : List Stmt} {Q : Flow → Shared → Prop}
theorem ov_cons {names : List (Str × Value)} {m : Str → Option Value} {x : Str} {v : Value} (ha : Agree m names) : (fun y => if y = x then some v else m y) = ov ((x, v) :: names) m := by
  funext y
  unfold ov
  rw [List.lookup_cons]
  by_cases h : y = x
  · subst h; simp
  · have hb : (y == x) = false := by simpa using h
    rw [if_neg h]
    simp only [hb]
    exact congrFun ha.ov y

theorem rangeAgree {r : Addr} {a₀ b₀ : Int} {t₀ u₀ v₀ : Tok} {n : Nat} {m₀ : Str → Option Value} {σ : Type} (names : List (Str × Value)) (Led : σ → List (Addr × Obj)) (Inv : Nat → σ → Prop) (x₀ : σ) (adr : List Addr) (hadr : ∀ z, (Led z).map (·.1) = adr)
    (hh : A.handled = none) (hr : IsRange s.heap r a₀ b₀ 1 t₀ u₀ v₀) (hsmall : Builtin.Range.small a₀ b₀ 1 = true) (hn : Builtin.Range.rangeSize a₀ b₀ 1 = (n : Int))
    (F : Fr h₀ env.locals s.heap m₀) (ha : Agree m₀ names) (N : News h₀ env.locals s.heap (Led x₀)) (hi : Inv 0 x₀)
    (turn : ∀ (i : Nat) t z u h tk own, i < n → Inv i z → OwnOff own adr → Fr h₀ env.locals h (ov ((x, .int (a₀ + (i : Int)) t) :: names) u) → News h₀ env.locals h (Led z ++ own) →
      wpAny (model prog w) A (execs body env) (TEnd (InvPostN h₀ env.locals (fun m' nx => Agree m' names ∧ ∃ z', nx = Led z' ∧ Inv (i + 1) z') own adr { s with heap := h, toks := tk } Q)) E { s with heap := h, toks := tk })
    (done : ∀ z u h tk, Inv n z → Fr h₀ env.locals h (ov names u) → News h₀ env.locals h (Led z) → Q .next { s with heap := h, toks := tk }) :
    wpAny (model prog w) A (pyIter (.ref r)) (fun it s₂ => LoopAtV prog w A h₀ env x body Q E it s₂) E s := by
  have e0 := hadr x₀
  subst e0
  refine kpr_invN (fun i m nx => Agree m names ∧ ∃ z, nx = Led z ∧ Inv i z) hh hr hsmall hn F N ⟨ha, x₀, rfl, hi⟩ ?_ ?_
  · rintro i k t m₁ nx h tk own hk hoff ⟨hag, z, rfl, hz⟩ F₁ N₁
    have hlt : i < n := by
      have := (List.getElem?_eq_some_iff.mp hk).1
      rwa [rangeKs_length] at this
    have hk' : k = a₀ + (i : Int) := by
      have h2 : (rangeKs a₀ n)[i]? = some (a₀ + (i : Int)) := by simp [rangeKs, hlt]
      rw [h2] at hk; exact (Option.some.inj hk).symm
    subst hk'
    rw [ov_cons hag] at F₁
    exact turn i t z m₁ h tk own hlt hz hoff F₁ N₁
  · rintro m₁ nx h tk ⟨hag, z, rfl, hz⟩ F₁ N₁
    rw [rangeKs_length] at hz
    exact done z m₁ h tk hz (hag.ov ▸ F₁) N₁

theorem turn_end {σ : Type} {names : List (Str × Value)} {Led : σ → List (Addr × Obj)} {Inv : σ → Prop} {own news' : List (Addr × Obj)} {adr : List Addr} {L : Addr} {m' : Str → Option Value} {s₁ : Shared} {h' : Heap} {tk : Nat}
    (F : Fr h₀ L h' m') (N : News h₀ L h' news') (ha : Agree m' names) (z : σ) (hz : Inv z) (hadr : (Led z).map (·.1) = adr) (h1 : ∀ p ∈ Led z, p ∈ news') (h2 : ∀ p ∈ own, p ∈ news') :
    TEnd (InvPostN h₀ L (fun m' nx => Agree m' names ∧ ∃ z', nx = Led z' ∧ Inv z') own adr s₁ Q) .next { s₁ with heap := h', toks := tk } :=
  InvEndN.intro F N ⟨ha, z, rfl, hz⟩ hadr h1 h2

/-- a range loop whose turned names stand in the state too -/
theorem rangeSt {r : Addr} {a₀ b₀ : Int} {t₀ u₀ v₀ : Tok} {n : Nat} {m₀ : Str → Option Value} {σ : Type} (names : σ → List (Str × Value)) (Led : σ → List (Addr × Obj)) (Inv : Nat → σ → Prop) (x₀ : σ) (adr : List Addr) (hadr : ∀ z, (Led z).map (·.1) = adr)
    (hh : A.handled = none) (hr : IsRange s.heap r a₀ b₀ 1 t₀ u₀ v₀) (hsmall : Builtin.Range.small a₀ b₀ 1 = true) (hn : Builtin.Range.rangeSize a₀ b₀ 1 = (n : Int))
    (F : Fr h₀ env.locals s.heap m₀) (ha : Agree m₀ (names x₀)) (N : News h₀ env.locals s.heap (Led x₀)) (hi : Inv 0 x₀)
    (turn : ∀ (i : Nat) t z u h tk own, i < n → Inv i z → OwnOff own adr → Fr h₀ env.locals h (ov ((x, .int (a₀ + (i : Int)) t) :: names z) u) → News h₀ env.locals h (Led z ++ own) →
      wpAny (model prog w) A (execs body env) (TEnd (InvPostN h₀ env.locals (fun m' nx => ∃ z', Agree m' (names z') ∧ nx = Led z' ∧ Inv (i + 1) z') own adr { s with heap := h, toks := tk } Q)) E { s with heap := h, toks := tk })
    (done : ∀ z u h tk, Inv n z → Fr h₀ env.locals h (ov (names z) u) → News h₀ env.locals h (Led z) → Q .next { s with heap := h, toks := tk }) :
    wpAny (model prog w) A (pyIter (.ref r)) (fun it s₂ => LoopAtV prog w A h₀ env x body Q E it s₂) E s := by
  have e0 := hadr x₀
  subst e0
  refine kpr_invN (fun i m nx => ∃ z, Agree m (names z) ∧ nx = Led z ∧ Inv i z) hh hr hsmall hn F N ⟨x₀, ha, rfl, hi⟩ ?_ ?_
  · rintro i k t m₁ nx h tk own hk hoff ⟨z, hag, rfl, hz⟩ F₁ N₁
    have hlt : i < n := by
      have := (List.getElem?_eq_some_iff.mp hk).1
      rwa [rangeKs_length] at this
    have hk' : k = a₀ + (i : Int) := by
      have h2 : (rangeKs a₀ n)[i]? = some (a₀ + (i : Int)) := by simp [rangeKs, hlt]
      rw [h2] at hk; exact (Option.some.inj hk).symm
    subst hk'
    rw [ov_cons hag] at F₁
    exact turn i t z m₁ h tk own hlt hz hoff F₁ N₁
  · rintro m₁ nx h tk ⟨z, hag, rfl, hz⟩ F₁ N₁
    rw [rangeKs_length] at hz
    exact done z m₁ h tk hz (hag.ov ▸ F₁) N₁
theorem turn_endS {σ : Type} {names : σ → List (Str × Value)} {Led : σ → List (Addr × Obj)} {Inv : σ → Prop} {own news' : List (Addr × Obj)} {adr : List Addr} {L : Addr} {m' : Str → Option Value} {s₁ : Shared} {h' : Heap} {tk : Nat}
    (z : σ) (F : Fr h₀ L h' m') (N : News h₀ L h' news') (ha : Agree m' (names z)) (hz : Inv z) (hadr : (Led z).map (·.1) = adr) (h1 : ∀ p ∈ Led z, p ∈ news') (h2 : ∀ p ∈ own, p ∈ news') :
    TEnd (InvPostN h₀ L (fun m' nx => ∃ z', Agree m' (names z') ∧ nx = Led z' ∧ Inv z') own adr s₁ Q) .next { s₁ with heap := h', toks := tk } :=
  InvEndN.intro F N ⟨z, ha, rfl, hz⟩ hadr h1 h2
end
end Mine
end
section
set_option maxRecDepth 100000
set_option linter.unusedSimpArgs false
namespace Mine
open LCg
section
variable {prog : Program} {w : World} {A : Around} {E : Value → Shared → Prop} {s : Shared} {h₀ : Heap} {L : Addr} {m : Str → Option Value} {env : Env}
noncomputable def TupAt (ax : Addr) (its : Array Value) (news : List (Addr × Obj)) : Prop := ∃ o, (ax, o) ∈ news ∧ o.cls = .type "tuple" ∧ ∃ n, o.data = .seq its n
theorem TupAt.tup {h : Heap} {ax : Addr} {its : Array Value} {news : List (Addr × Obj)} (x : TupAt ax its news) (N : News h₀ L h news) : h.IsTuple ax its := by
  obtain ⟨o, hm, r⟩ := x
  exact ⟨o, (N _ hm).1, r⟩
noncomputable def TupSrc (prog : Program) (w : World) (A : Around) (h₀ : Heap) (L : Addr) (m : Str → Option Value) (env : Env) (elt : Expr) (x : Str) (scope : Scope) (cl : List (Str × Addr)) (Fin : Shared → List Value → List (Addr × Obj) → Prop) (xv : Value) (s₁ : Shared) : Prop :=
  ∃ ax its news, xv = .ref ax ∧ A.handled = none ∧ Fr h₀ L s₁.heap m ∧ News h₀ L s₁.heap news ∧ TupAt ax its news ∧ its.size ≤ sizeLine ∧
    ∀ s₂ : Shared, (∃ h, s₂ = { s₁ with heap := h }) → CompRest prog w A h₀ L m env elt x scope cl s₂ (TupAt ax its) (fun i v => its[i]? = some v) (Fin s₂) its.size 0 [] news
theorem TupSrc.of {elt : Expr} {x : Str} {scope : Scope} {cl : List (Str × Addr)} {Fin : Shared → List Value → List (Addr × Obj) → Prop} {ax : Addr} {its : Array Value} {k : Nat} {news : List (Addr × Obj)} {s₁ : Shared}
    (hh : A.handled = none) (F : Fr h₀ L s₁.heap m) (N : News h₀ L s₁.heap news) (hm : (ax, ({ cls := .type "tuple", data := .seq its k } : Obj)) ∈ news) (hsz : its.size ≤ sizeLine)
    (h : ∀ g, CompRest prog w A h₀ L m env elt x scope cl { s₁ with heap := g } (TupAt ax its) (fun i v => its[i]? = some v) (Fin { s₁ with heap := g }) its.size 0 [] news) :
    TupSrc prog w A h₀ L m env elt x scope cl Fin (.ref ax) s₁ := ⟨ax, its, news, rfl, hh, F, N, ⟨_, hm, rfl, _, rfl⟩, hsz, fun _ ⟨g, e⟩ => e ▸ h g⟩
theorem tup_st {ax I : Addr} {its : Array Value} : ∀ i (h h' : Heap) (o : Obj) (nw : List (Addr × Obj)), (h.IsTupleIter I ax i ∧ h.IsTuple ax its) → h.get? I = some o → h'.get? I = some o → (∀ b o, h₀.get? b = some o → h'.get? b = some o) → News h₀ L h' nw → TupAt ax its nw → (h'.IsTupleIter I ax i ∧ h'.IsTuple ax its) :=
  fun i h h' o nw st e e' _ N S => ⟨by obtain ⟨o', q, r⟩ := st.1; rw [e] at q; cases q; exact ⟨o, e', r⟩, S.tup N⟩

theorem ListComp_T {elt iter : Expr} {x : Str} {px : Pos} {scope : Scope} {cl : List (Str × Addr)} {pos : Pos} {Q : Value → Shared → Prop} (_F₀ : Fr h₀ L s.heap m)
    (hclos : closureFor scope env = pure cl) (hcell : ∀ y ∈ scope.names, y.2 ≠ .cell) (hkind : scope.kind = .function)
    (hnames : ∀ y ∈ scope.names, y.2 = .local → scope.names.lookup y.1 = some .local) (hx : scope.names.lookup x = some .local)
    (h : wpAny (model prog w) A (eval iter env) (TupSrc prog w A h₀ L m env elt x scope cl (fun s₂ => FinE h₀ L m s₂ Q)) E s)
    (hs : ∀ x, foldedSetIterable iter env x = pure x := by intro _; rfl) :
    wpAny (model prog w) A (eval (.ListComp elt [⟨.Name x px, iter, [], 0⟩] scope pos) env) Q E s := by
  rw [eval_ListComp]
  refine wpAny_comprehension_free (use := none) rfl hs hclos hkind hnames (wpAny_mono h (fun xv s₁ h₁ => ?_) fun _ _ e => e)
  obtain ⟨ax, its, news, rfl, hh, F, N, S, hsz, R⟩ := h₁
  have hl := S.tup N
  have hlt : ax < s₁.heap.objs.size := by obtain ⟨_, e, _⟩ := hl; exact Heap.lt_size e
  refine wpAny_pyIter_tuple hl ?_
  have up : ∀ b o, s₁.heap.get? b = some o → (s₁.heap.push { cls := .type "tuple_iterator", data := .fields #[.ref ax, .int 0 0] }).get? b = some o := fun b o e => Heap.get?_push_of_some _ e
  refine block_U (Walks.tuple hh s₁.heap.objs.size ax (Nat.ne_of_lt hlt) its) hsz (fun i h st => by obtain ⟨o, e, _⟩ := st.1; exact ⟨o, e⟩) tup_st hcell hkind hx ⟨⟨_, Heap.get?_push_size _ rfl, rfl, rfl⟩, hl.at fun o e => up _ o e⟩ (fun b hb => ?_)
    (F.keeps up) (N.grown up) (Nat.ne_of_lt F.ns.lt) (next_is_new F) (fun p hp => Nat.ne_of_lt (Heap.lt_size (N p hp).1)) S (R _ ⟨_, rfl⟩) ?_
  · show b < (s₁.heap.push _).objs.size
    rw [Heap.size_push]
    rcases List.mem_cons.mp hb with rfl | hb
    · exact Nat.lt_succ_self _
    · rw [List.mem_singleton.mp hb]; exact Nat.lt_succ_of_lt hlt
  · intro D C h tk m' ys news' F' N' o1 hn hC₀ hD₀ hCL hDL hCD offC fin
    refine ⟨m', hn, fun h'' hs'' => fin D h'' tk (F'.change hs'' hCL hC₀) (fun p hp => ?_) o1⟩
    refine ⟨hs''.extBut _ _ ?_ (N' p hp).1, (N' p hp).2⟩
    rcases List.mem_cons.mp hp with rfl | hp
    · exact Ne.symm hCD
    · exact offC p hp

/-- the end of a comprehension's element -/
noncomputable def ElEnd (h₀ : Heap) (L : Addr) (m : Str → Option Value) (s₁ : Shared) (I : Addr) (oI : Obj) (C : Addr) (oC : Obj) (D : Addr) (oD : Obj) (K : Value → List (Addr × Obj) → Prop) (news : List (Addr × Obj)) (y : Value) (s₂ : Shared) : Prop :=
  ∃ h' tk nw', s₂ = { s₁ with heap := h', toks := tk } ∧ Fr h₀ L h' m ∧ News h₀ L h' ((I, oI) :: (C, oC) :: (D, oD) :: (nw' ++ news)) ∧ Off3 I C D nw' ∧ K y nw'
theorem ElEnd.intro {I C D : Addr} {oI oC oD : Obj} {s₁ : Shared} {K : Value → List (Addr × Obj) → Prop} {news all : List (Addr × Obj)} {y : Value} {h' : Heap} {tk : Nat} (F : Fr h₀ L h' m) (N : News h₀ L h' all) (nw' : List (Addr × Obj))
    (sub : ∀ p ∈ (I, oI) :: (C, oC) :: (D, oD) :: (nw' ++ news), p ∈ all) (off : Off3 I C D nw') (r : K y nw') : ElEnd h₀ L m s₁ I oI C oC D oD K news y { s₁ with heap := h', toks := tk } := ⟨h', tk, nw', rfl, F, fun p hp => N p (sub p hp), off, r⟩
theorem off3_append {I C D : Addr} : ∀ {a b : List (Addr × Obj)}, Off3 I C D a → Off3 I C D b → Off3 I C D (a ++ b)
  | [], _, _, h => h
  | _ :: _, _, h, h' => ⟨h.1, off3_append h.2 h'⟩
theorem off3_left {I C D : Addr} : ∀ {a b : List (Addr × Obj)}, Off3 I C D (a ++ b) → Off3 I C D a
  | [], _, _ => trivial
  | _ :: _, _, h => ⟨h.1, off3_left h.2⟩
theorem off3_right {I C D : Addr} : ∀ {a b : List (Addr × Obj)}, Off3 I C D (a ++ b) → Off3 I C D b
  | [], _, h => h
  | _ :: _, _, h => off3_right h.2

theorem comp_inv {elt : Expr} {x : Str} {scope : Scope} {cl : List (Str × Addr)} {S : List (Addr × Obj) → Prop} {P : Nat → Value → Prop} {Fin : List Value → List (Addr × Obj) → Prop} {news : List (Addr × Obj)} {n : Nat} (J : Nat → List Value → List (Addr × Obj) → Prop)
    (hS : ∀ nw, S (nw ++ news)) (h0 : J 0 [] [])
    (turn : ∀ i v ys nw I oI C oC D m₂ h tk (E' : Value → Shared → Prop), i < n → P i v → J i ys nw → NsObj oC m₂ → m₂ x = some v → Fr h₀ L h m → News h₀ L h ((I, oI) :: (C, oC) :: (D, lst ys) :: (nw ++ news)) → Off3 I C D (nw ++ news) → ((@Ne Nat I C) ∧ (@Ne Nat I D) ∧ (@Ne Nat C D)) →
      wpAny (model prog w) A (eval elt (compEnvC scope cl C env)) (ElEnd h₀ L m { s with heap := h, toks := tk } I oI C oC D (lst ys) (fun y nw' => J (i + 1) (ys ++ [y]) nw') news) E' { s with heap := h, toks := tk })
    (fin : ∀ ys nw, J n ys nw → Fin ys (nw ++ news)) : CompRest prog w A h₀ L m env elt x scope cl s S P Fin n 0 [] news := by
  have key : ∀ (j i : Nat) (ys : List Value) (nw : List (Addr × Obj)), i + j = n → J i ys nw → CompRest prog w A h₀ L m env elt x scope cl s S P Fin j i ys (nw ++ news) := by
    intro j
    induction j with
    | zero =>
      intro i ys nw hi hJ
      obtain rfl : i = n := by omega
      exact CompRest.zero (fin ys nw hJ)
    | succ j ih =>
      intro i ys nw hi hJ
      refine CompRest.succ ?_
      intro v I oI C oC D m₂ h tk E' hv hC hx F N off ne
      refine wpAny_mono (turn i v ys nw I oI C oC D m₂ h tk E' (by omega) hv hJ hC hx F N off ne) (fun y s₂ hq => ?_) fun _ _ e => e
      obtain ⟨h', tk', nw', e, F', N', off', hK⟩ := hq
      exact ⟨h', tk', nw' ++ news, e, F', N', off3_append off' (off3_right off), hS nw', ih (i + 1) _ nw' (by omega) hK⟩
  exact key n 0 [] [] (by omega) h0

/-- a comprehension whose elements make nothing that stays -/
theorem comp_vals {elt : Expr} {x : Str} {scope : Scope} {cl : List (Str × Addr)} {S : List (Addr × Obj) → Prop} {Fin : List Value → List (Addr × Obj) → Prop} {news : List (Addr × Obj)} {its : Array Value} (R : Value → Value → Prop)
    (hS : S news)
    (turn : ∀ v ys I oI C oC D m₂ h tk (E' : Value → Shared → Prop), v ∈ its.toList → NsObj oC m₂ → m₂ x = some v → Fr h₀ L h m → News h₀ L h ((I, oI) :: (C, oC) :: (D, lst ys) :: news) → Off3 I C D news → ((@Ne Nat I C) ∧ (@Ne Nat I D) ∧ (@Ne Nat C D)) →
      wpAny (model prog w) A (eval elt (compEnvC scope cl C env)) (ElEnd h₀ L m { s with heap := h, toks := tk } I oI C oC D (lst ys) (fun y nw' => nw' = [] ∧ R v y) news) E' { s with heap := h, toks := tk })
    (fin : ∀ ys, ys.length = its.size → (∀ (k : Nat) v y, its[k]? = some v → ys[k]? = some y → R v y) → Fin ys news) : CompRest prog w A h₀ L m env elt x scope cl s S (fun i v => its[i]? = some v) Fin its.size 0 [] news := by
  have key : ∀ (j i : Nat) (ys : List Value), i + j = its.size → ys.length = i → (∀ (k : Nat) v y, its[k]? = some v → ys[k]? = some y → R v y) → CompRest prog w A h₀ L m env elt x scope cl s S (fun i v => its[i]? = some v) Fin j i ys news := by
    intro j
    induction j with
    | zero =>
      intro i ys hi hl hR
      exact CompRest.zero (fin ys (by omega) hR)
    | succ j ih =>
      intro i ys hi hl hR
      refine CompRest.succ ?_
      intro v I oI C oC D m₂ h tk E' hv hC hx F N off ne
      have hmem : v ∈ its.toList := by
        rw [← Array.getElem?_toList] at hv
        exact List.mem_of_getElem? hv
      refine wpAny_mono (turn v ys I oI C oC D m₂ h tk E' hmem hC hx F N off ne) (fun y s₂ hq => ?_) fun _ _ e => e
      obtain ⟨h', tk', nw', e, F', N', off', hnw, hr⟩ := hq
      subst hnw
      refine ⟨h', tk', news, e, F', N', off, hS, ih (i + 1) _ (by omega) (by simp [hl]) ?_⟩
      intro k v' y' h1 h2
      by_cases hk : k < ys.length
      · rw [List.getElem?_append_left hk] at h2
        exact hR k v' y' h1 h2
      · rw [List.getElem?_append_right (by omega)] at h2
        have hk' : k = i := by
          have := (List.getElem?_eq_some_iff.mp h2).1
          simp at this; omega
        subst hk'
        rw [hv] at h1
        have h3 : k - ys.length = 0 := by omega
        rw [h3] at h2
        simp at h2
        cases h1; cases h2
        exact hr
  exact key its.size 0 [] (by omega) rfl (fun k v y _ h2 => by simp at h2)
end
theorem vals_eq {its : Array Value} {ys : List Value} (hl : ys.length = its.size) (hR : ∀ (k : Nat) v y, its[k]? = some v → ys[k]? = some y → y = v) : ys = its.toList := by
  obtain ⟨zs⟩ := its
  have hl' : ys.length = zs.length := hl
  refine List.ext_getElem? fun k => ?_
  show ys[k]? = zs[k]?
  by_cases hk : k < ys.length
  · have h1 : ys[k]? = some ys[k] := List.getElem?_eq_getElem hk
    have h2 : zs[k]? = some (zs[k]'(by omega)) := List.getElem?_eq_getElem (by omega)
    rw [h1, h2, hR k (zs[k]'(by omega)) _ (by rw [← Array.getElem?_toList]; exact h2) h1]
  · rw [List.getElem?_eq_none (by omega), List.getElem?_eq_none (by omega)]
theorem len_succ {α : Type} {n : Nat} : ∀ {ys : List α}, ys.length = n + 1 → ∃ x r, ys = x :: r ∧ r.length = n
  | x :: r, h => ⟨x, r, rfl, Nat.succ.inj h⟩
theorem vals3 {a b c : Value} {ys : List Value} {R : Value → Value → Prop} (hl : ys.length = (#[a, b, c] : Array Value).size) (hR : ∀ (k : Nat) v y, (#[a, b, c] : Array Value)[k]? = some v → ys[k]? = some y → R v y) :
    ∃ x y z, ys = [x, y, z] ∧ R a x ∧ R b y ∧ R c z := by
  obtain ⟨x, r2, rfl, h2⟩ := len_succ (n := 2) hl
  obtain ⟨y, r1, rfl, h1⟩ := len_succ (n := 1) h2
  obtain ⟨z, r0, rfl, h0⟩ := len_succ (n := 0) h1
  obtain rfl := List.eq_nil_of_length_eq_zero h0
  exact ⟨x, y, z, rfl, hR 0 _ _ rfl rfl, hR 1 _ _ rfl rfl, hR 2 _ _ rfl rfl⟩
theorem vals6 {a b c d e f : Value} {ys : List Value} {R : Value → Value → Prop} (hl : ys.length = (#[a, b, c, d, e, f] : Array Value).size) (hR : ∀ (k : Nat) v y, (#[a, b, c, d, e, f] : Array Value)[k]? = some v → ys[k]? = some y → R v y) :
    ∃ x1 x2 x3 x4 x5 x6, ys = [x1, x2, x3, x4, x5, x6] ∧ R a x1 ∧ R b x2 ∧ R c x3 ∧ R d x4 ∧ R e x5 ∧ R f x6 := by
  obtain ⟨x1, r5, rfl, h5⟩ := len_succ (n := 5) hl
  obtain ⟨x2, r4, rfl, h4⟩ := len_succ (n := 4) h5
  obtain ⟨x3, r3, rfl, h3⟩ := len_succ (n := 3) h4
  obtain ⟨x4, r2, rfl, h2⟩ := len_succ (n := 2) h3
  obtain ⟨x5, r1, rfl, h1⟩ := len_succ (n := 1) h2
  obtain ⟨x6, r0, rfl, h0⟩ := len_succ (n := 0) h1
  obtain rfl := List.eq_nil_of_length_eq_zero h0
  exact ⟨x1, x2, x3, x4, x5, x6, rfl, hR 0 _ _ rfl rfl, hR 1 _ _ rfl rfl, hR 2 _ _ rfl rfl, hR 3 _ _ rfl rfl, hR 4 _ _ rfl rfl, hR 5 _ _ rfl rfl⟩
end Mine
end
section
set_option maxRecDepth 100000
set_option linter.unusedSimpArgs false
namespace Mine
open PySem.SeqAt
section
variable {prog : Program} {w : World} {A : Around} {E : Value → Shared → Prop} {s : Shared}
theorem isSame_float {y z : UInt64} {u v : Tok} {Q : Bool → Shared → Prop}
    (h0 : (u == 0 || v == 0) = false) (hb : NoneBooked s.heap) (hq : ∀ b, Q b s) : wpAny (model prog w) A (isSame (.float y u) (.float z v)) Q E s := by
  show wpAny _ A (isSame.created (y == z && !Float64.isNaN y) u v) Q E s
  unfold isSame.created
  refine wpAny_ite ?_
  split
  · rename_i h; rw [h0] at h; exact absurd h Bool.false_ne_true
  refine wpAny_ite ?_
  split
  · exact wpAny_pure (hq _)
  refine wpAny_ite ?_
  split
  · exact wpAny_pure (hq _)
  refine wpAny_bind (wpAny_sharingNotTold_none hb ?_)
  first | rw [if_neg Bool.false_ne_true] | simp only [Bool.false_eq_true, if_false]
  refine wpAny_bind (wpAny_sharingNotTold_none hb ?_)
  first | rw [if_neg Bool.false_ne_true] | simp only [Bool.false_eq_true, if_false]
  exact wpAny_bind (wpAny_rule (wpAny_bind (wpAny_askSetting (wpAny_pure (hq _)))))
theorem eqAt_ff {x y : UInt64} {t u : Tok} (h0 : (t == 0 || u == 0) = false) (hb : NoneBooked s.heap) (he : (Float64.cmp x y == some .eq) = true) : EqAt A s (.float x t) (.float y u) true := fun prog w E Q hq => by
  unfold eqBool
  refine wpAny_holding ?_
  refine wpAny_ite_split (fun _ => wpAny_bind (wpAny_rule (wpAny_pure hq))) (fun _ => ?_)
  refine wpAny_bind (isSame_float h0 hb fun b => ?_)
  cases b
  · simp only [Bool.false_eq_true, if_false]
    exact wpAny_bind (AutoFloatOps.eq_0 (by rw [he]; exact wpAny_truthy_bool hq))
  · simp only [if_true]
    exact wpAny_pure hq
theorem eqAt_fi {x : UInt64} {n : Int} {t u : Tok} (he : (Float64.cmpInt x n == some .eq) = true) : EqAt A s (.float x t) (.int n u) true := fun prog w E Q hq => by
  unfold eqBool
  refine wpAny_holding ?_
  refine wpAny_ite_split (fun _ => wpAny_bind (wpAny_rule (wpAny_pure hq))) (fun _ => ?_)
  exact wpAny_bind (PyProof.Rows.eq_fi (by rw [he]; exact wpAny_truthy_bool hq))
theorem eqAt_ii {x n : Int} {t u : Tok} (he : x = n) : EqAt A s (.int x t) (.int n u) true := fun prog w E Q hq => wpAny_eqBool_int (by rw [he]; simpa using hq)
theorem noneBooked {K : Frag} {h : Heap} (X : K.In h) (hk : K.lookup cStatics = some ⟨.none, none, .dict #[] 0, #[]⟩) : NoneBooked h :=
  ⟨fun _ => none, ⟨_, #[], 0, X _ _ hk, rfl, by intro e he; simp at he, fun name => by simp [nsFind, findBy]⟩, rfl⟩
theorem eq_five {a b : Addr} {v1 v2 v3 v4 v5 u1 u2 u3 u4 u5 : Value} {Q : Value → Shared → Prop} (ha : s.heap.IsTuple a #[v1, v2, v3, v4, v5]) (hb : s.heap.IsTuple b #[u1, u2, u3, u4, u5]) (hu : A.units < cLine)
    (h1 : EqAt A.in1 s v1 u1 true) (h2 : EqAt A.in1 s v2 u2 true) (h3 : EqAt A.in1 s v3 u3 true) (h4 : EqAt A.in1 s v4 u4 true) (h5 : EqAt A.in1 s v5 u5 true) (h : Q (.bool true) s) :
    wpAny (model prog w) A (compareOp .Eq (.ref a) (.ref b)) Q E s := by
  refine eq_tupleAt (e := fun _ => true) ha hb hu (fun j q1 q2 => ?_) h
  match j, q1 with
  | 0, _ => exact h1
  | 1, _ => exact h2
  | 2, _ => exact h3
  | 3, _ => exact h4
  | 4, _ => exact h5
theorem isTup_of {g h : Heap} {L a : Addr} {its : Array Value} {n : Nat} {news : List (Addr × Obj)} (N : News g L h news) (hm : (a, ({ cls := .type "tuple", data := .seq its n } : Obj)) ∈ news) : h.IsTuple a its := ⟨_, (N _ hm).1, rfl, _, rfl⟩
end
end Mine
end
section
set_option maxRecDepth 100000
set_option linter.unusedSimpArgs false
namespace Mine
open PySem.SeqAt
/-- a place as the law's text bears it: a tuple of two ints -/
structure PtV where
  a : Addr
  x : Int
  y : Int
  tx : Tok
  ty : Tok
noncomputable def PtV.obj (p : PtV) : Obj := { cls := .type "tuple", data := .seq [Value.int p.x p.tx, Value.int p.y p.ty].toArray }
noncomputable def PtV.val (p : PtV) : Value := .ref p.a
noncomputable def PtV.ok (p : PtV) : Prop := 0 ≤ p.x ∧ p.x ≤ 3 ∧ 0 ≤ p.y ∧ p.y ≤ 3
noncomputable def ptsO (pts : List PtV) (k : Nat) : Obj := { cls := .type "list", data := .seq (pts.map PtV.val).toArray k }
noncomputable def hueAt (f : Nat → Int) (s p : PtV) : Int := f (7 * (p.x - s.x) + p.y - s.y + 24).toNat
noncomputable def turnOf (f : Nat → Int) (s a b : PtV) : Int := (hueAt f s b - hueAt f s a + 180000).fmod 360000 - 180000
noncomputable def PtV.at (s p : PtV) : Bool := s.x == p.x && s.y == p.y
noncomputable def tT (f : Nat → Int) (s a b : PtV) : Int := if turnOf f s a b = -180000 then 0 else if s.at a = true then 0 else if s.at b = true then 0 else turnOf f s a b
noncomputable def prevI (n i : Nat) : Nat := if i = 0 then n - 1 else i - 1
noncomputable def stepOf (g : PtV → PtV → Int) (pts : List PtV) (i : Nat) : Int := match pts[prevI pts.length i]?, pts[i]? with
  | some a, some b => g a b
  | _, _ => 0
noncomputable def walkSum (g : PtV → PtV → Int) (pts : List PtV) : Nat → Int
  | 0 => 0
  | i + 1 => walkSum g pts i + stepOf g pts i
theorem stepOf_eq {g : PtV → PtV → Int} {pts : List PtV} {i : Nat} {a b : PtV} (ha : pts[prevI pts.length i]? = some a) (hb : pts[i]? = some b) : stepOf g pts i = g a b := by
  unfold stepOf; rw [ha, hb]
section
variable {prog : Program} {w : World} {A : Around} {E : Value → Shared → Prop} {s : Shared} {g : Heap} {L : Addr} {news : List (Addr × Obj)}
theorem pt_tup (N : News g L s.heap news) {p : PtV} (hp : (p.a, p.obj) ∈ news) : s.heap.IsTuple p.a #[Value.int p.x p.tx, Value.int p.y p.ty] := ⟨_, (N _ hp).1, rfl, _, rfl⟩
theorem pts_list (N : News g L s.heap news) {pts : List PtV} {ca : Addr} {k : Nat} (hc : (ca, ptsO pts k) ∈ news) : s.heap.IsList ca (pts.map PtV.val).toArray := ⟨_, (N _ hc).1, rfl, _, rfl⟩
theorem pt_eqAt {p q : PtV} {A : Around} : ∀ j (h1 : j < (#[Value.int p.x p.tx, Value.int p.y p.ty] : Array Value).size) (h2 : j < (#[Value.int q.x q.tx, Value.int q.y q.ty] : Array Value).size),
    EqAt A s (#[Value.int p.x p.tx, Value.int p.y p.ty] : Array Value)[j] (#[Value.int q.x q.tx, Value.int q.y q.ty] : Array Value)[j] ((fun j : Nat => match j with | 0 => p.x == q.x | _ => p.y == q.y) j) := fun j h1 h2 => by
  match j, h1 with
  | 0, _ => exact fun prog w E Q hq => wpAny_eqBool_int hq
  | 1, _ => exact fun prog w E Q hq => wpAny_eqBool_int hq
/-- two places compared -/
theorem pt_ne (N : News g L s.heap news) {p q : PtV} {Q : Value → Shared → Prop} (hp : (p.a, p.obj) ∈ news) (hq : (q.a, q.obj) ∈ news) (hu : A.units < cLine) (h : Q (.bool (!(p.x == q.x && p.y == q.y))) s) :
    wpAny (model prog w) A (compareOp .NotEq (.ref p.a) (.ref q.a)) Q E s := by
  refine RcNeAt.tuples (pt_tup N hp) (pt_tup N hq) hu pt_eqAt prog w E Q ?_
  have e : (List.range (min (#[Value.int p.x p.tx, Value.int p.y p.ty] : Array Value).size (#[Value.int q.x q.tx, Value.int q.y q.ty] : Array Value).size)).all (fun j : Nat => match j with | 0 => p.x == q.x | _ => p.y == q.y) = (p.x == q.x && p.y == q.y) := by
    show (List.range 2).all _ = _
    simp [List.range_succ]
  rw [e]
  simpa using h
theorem pt_x {value slice : Expr} {p : PtV} {k : Int} {u : Tok} {Q : Value → Shared → Prop} (N : News g L s.heap news) (hp : (p.a, p.obj) ∈ news) (hk : k = 0) (h : Q (.int p.x p.tx) s)
    (hs : subscripted slice false (.ref p.a) (.int k u) = operate [.ref p.a, .int k u] (getItem (.ref p.a) (.int k u)) := by with_unfolding_all rfl) : wpAny (model prog w) A (subscriptTail value slice (.ref p.a) (.int k u)) Q E s := by
  subst hk
  exact tail_any (pt_tup N hp).typeIs slot_tuple_getitem.lookup (PyProof.Rows.getItem_tuple (pt_tup N hp) (by decide) (by decide) rfl rfl h) hs
theorem pt_y {value slice : Expr} {p : PtV} {k : Int} {u : Tok} {Q : Value → Shared → Prop} (N : News g L s.heap news) (hp : (p.a, p.obj) ∈ news) (hk : k = 1) (h : Q (.int p.y p.ty) s)
    (hs : subscripted slice false (.ref p.a) (.int k u) = operate [.ref p.a, .int k u] (getItem (.ref p.a) (.int k u)) := by with_unfolding_all rfl) : wpAny (model prog w) A (subscriptTail value slice (.ref p.a) (.int k u)) Q E s := by
  subst hk
  exact tail_any (pt_tup N hp).typeIs slot_tuple_getitem.lookup (PyProof.Rows.getItem_tuple (pt_tup N hp) (by decide) (by decide) rfl rfl h) hs
/-- an item of a list, from behind too -/
theorem list_item {value slice : Expr} {l : Addr} {items : Array Value} {k : Int} {u : Tok} {j : Nat} {v : Value} {Q : Value → Shared → Prop} (hl : s.heap.IsList l items) (hsz : items.size ≤ 1000)
    (hk : (0 ≤ k ∧ k.toNat = j) ∨ (k < 0 ∧ -(items.size : Int) ≤ k ∧ (k + items.size).toNat = j)) (hx : items[j]? = some v) (h : Q v s)
    (hs : subscripted slice false (.ref l) (.int k u) = operate [.ref l, .int k u] (getItem (.ref l) (.int k u)) := by with_unfolding_all rfl) : wpAny (model prog w) A (subscriptTail value slice (.ref l) (.int k u)) Q E s := by
  have hj : j < items.size := (Array.getElem?_eq_some_iff.mp hx).1
  rcases hk with ⟨h0, rfl⟩ | ⟨h0, h1, rfl⟩
  · exact tail_any hl.typeIs slot_list_getitem.lookup (wpAny_getItem_list hl h0 (by omega) hx h) hs
  · exact tail_any hl.typeIs slot_list_getitem.lookup (wpAny_getItem_list_neg hl h0 h1 (by omega) hx h) hs
theorem pts_item {value slice : Expr} {pts : List PtV} {ca : Addr} {kk : Nat} {p : PtV} {k : Int} {u : Tok} {j : Nat} {Q : Value → Shared → Prop} (N : News g L s.heap news) (hc : (ca, ptsO pts kk) ∈ news) (hsz : pts.length ≤ 5)
    (hk : (0 ≤ k ∧ k.toNat = j) ∨ (k < 0 ∧ -(pts.length : Int) ≤ k ∧ (k + pts.length).toNat = j)) (hx : pts[j]? = some p) (h : Q (.ref p.a) s)
    (hs : subscripted slice false (.ref ca) (.int k u) = operate [.ref ca, .int k u] (getItem (.ref ca) (.int k u)) := by with_unfolding_all rfl) : wpAny (model prog w) A (subscriptTail value slice (.ref ca) (.int k u)) Q E s := by
  have e : (pts.map PtV.val).toArray.size = pts.length := by simp
  exact list_item (pts_list N hc) (by omega) (by rw [e]; exact hk) (by simp [hx, PtV.val]) h hs
theorem seen_item {value slice : Expr} {da : Addr} {od : Obj} {kv : List (Int × Value)} {f : Nat → Int} {n t : Nat} {k : Int} {u : Tok} {Q : Value → Shared → Prop} (N : News g L s.heap news) (hp : (da, od) ∈ news) (hd : od.IsDictOf (PySem.intKind prog w) kv)
    (hs0 : SeenK kv n f) (ht : t < n) (hk : k = (t : Int) - 24) (h : ∀ tk, Q (.int (f t) tk) { s with toks := s.toks + 1 })
    (hs : subscripted slice false (.ref da) (.int k u) = operate [.ref da, .int k u] (getItem (.ref da) (.int k u)) := by with_unfolding_all rfl) : wpAny (model prog w) A (subscriptTail value slice (.ref da) (.int k u)) Q E s := by
  subst hk
  obtain ⟨tk, hv⟩ := hs0.2 t ht
  exact kdt_tail N hp hd (kdt_getItem N hp hd (intKind_is _ _ _ _) hv (h tk)) hs
end
end Mine
end
section
set_option maxRecDepth 100000
set_option linter.unusedSimpArgs false
namespace Mine
theorem intsAre_get : ∀ {vs : List Value} {ns : List Int}, IntsAre vs ns → ∀ {j : Nat} {v : Int}, ns[j]? = some v → ∃ tk, vs[j]? = some (.int v tk)
  | _, _, .nil, j, v, h => by simp at h
  | _, _, .cons n t r, 0, v, h => by
    simp at h; subst h; exact ⟨_, rfl⟩
  | _, _, .cons n t r, j + 1, v, h => by
    simp only [List.getElem?_cons_succ] at h ⊢
    exact intsAre_get r h
section
variable {prog : Program} {w : World} {A : Around} {E : Value → Shared → Prop} {s : Shared} {g : Heap} {L : Addr} {news : List (Addr × Obj)}
theorem ints_item {value slice : Expr} {l : Addr} {ys : List Value} {ns : List Int} {k : Int} {u : Tok} {j : Nat} {v : Int} {Q : Value → Shared → Prop} (N : News g L s.heap news) (hm : (l, LCg.lst ys) ∈ news) (hi : IntsAre ys ns) (hsz : ns.length ≤ 1000)
    (hk : (0 ≤ k ∧ k.toNat = j) ∨ (k < 0 ∧ -(ns.length : Int) ≤ k ∧ (k + ns.length).toNat = j)) (hx : ns[j]? = some v) (h : ∀ tk, Q (.int v tk) s)
    (hs : subscripted slice false (.ref l) (.int k u) = operate [.ref l, .int k u] (getItem (.ref l) (.int k u)) := by with_unfolding_all rfl) : wpAny (model prog w) A (subscriptTail value slice (.ref l) (.int k u)) Q E s := by
  obtain ⟨tk, hv⟩ := intsAre_get hi hx
  have e := IntsAre.length hi
  exact list_item ⟨_, (N _ hm).1, rfl, _, rfl⟩ (by simp; omega) (by simp only [List.size_toArray]; rw [e]; exact hk) (by simpa using hv) (h tk) hs
end
theorem prevI_lt {n i : Nat} (h : i < n) : prevI n i < n := by unfold prevI; split <;> omega
theorem prevI_idx {n i : Nat} (h : i < n) : (0 ≤ (0 + (i : Int)) - 1 ∧ ((0 + (i : Int)) - 1).toNat = prevI n i) ∨ ((0 + (i : Int)) - 1 < 0 ∧ -(n : Int) ≤ (0 + (i : Int)) - 1 ∧ (((0 + (i : Int)) - 1) + n).toNat = prevI n i) := by
  unfold prevI
  by_cases h0 : i = 0
  · right; subst h0; simp; omega
  · left; simp [h0]; omega
theorem own_idx {n i : Nat} : (0 ≤ (0 + (i : Int)) ∧ (0 + (i : Int)).toNat = i) ∨ ((0 + (i : Int)) < 0 ∧ -(n : Int) ≤ (0 + (i : Int)) ∧ ((0 + (i : Int)) + n).toNat = i) := by left; omega
theorem tT_0 {f : Nat → Int} {s a b : PtV} {z : Int} (h : turnOf f s a b = -180000) : z + tT f s a b = z := by
  unfold tT; rw [if_pos h]; omega
theorem tT_1 {f : Nat → Int} {s a b : PtV} {z : Int} (h : s.at a = true) : z + tT f s a b = z := by
  unfold tT; rw [if_pos h]; split <;> omega
theorem tT_2 {f : Nat → Int} {s a b : PtV} {z : Int} (h : s.at b = true) : z + tT f s a b = z := by
  unfold tT; rw [if_pos h]; split
  · omega
  · split <;> omega
theorem tT_3 {f : Nat → Int} {s a b : PtV} {z : Int} (h : turnOf f s a b ≠ -180000) (h2 : s.at a = false) (h3 : s.at b = false) : z + tT f s a b = z + turnOf f s a b := by
  unfold tT; rw [if_neg h, if_neg (by rw [h2]; exact Bool.false_ne_true), if_neg (by rw [h3]; exact Bool.false_ne_true)]
noncomputable def sideOf (s a b : PtV) : Int := (b.x - a.x) * (s.y - a.y) - (s.x - a.x) * (b.y - a.y)
noncomputable def onWay (s a b : PtV) : Bool := decide (sideOf s a b = 0) && decide ((a.x - s.x) * (b.x - s.x) + (a.y - s.y) * (b.y - s.y) ≤ 0)
noncomputable def rR (s a b : PtV) : Int := (if a.y ≤ s.y ∧ s.y < b.y ∧ 0 < sideOf s a b then 1 else 0) - (if b.y ≤ s.y ∧ s.y < a.y ∧ sideOf s a b < 0 then 1 else 0)
noncomputable def offStep (s : PtV) (pts : List PtV) (i : Nat) : Bool := match pts[prevI pts.length i]?, pts[i]? with
  | some a, some b => !onWay s a b
  | _, _ => true
theorem offStep_eq {s : PtV} {pts : List PtV} {i : Nat} {a b : PtV} (ha : pts[prevI pts.length i]? = some a) (hb : pts[i]? = some b) : offStep s pts i = !onWay s a b := by
  unfold offStep; rw [ha, hb]
theorem off_step {s : PtV} {pts : List PtV} {i : Nat} {a b : PtV} (h : ∀ j, j < i → offStep s pts j = true) (ha : pts[prevI pts.length i]? = some a) (hb : pts[i]? = some b) (ho : onWay s a b = false) : ∀ j, j < i + 1 → offStep s pts j = true := fun j hj => by
  by_cases e : j = i
  · subst e; rw [offStep_eq ha hb, ho]; rfl
  · exact h j (by omega)
theorem walk_step {g : PtV → PtV → Int} {pts : List PtV} {i : Nat} {a b : PtV} {z v : Int} (hz : z = walkSum g pts i) (ha : pts[prevI pts.length i]? = some a) (hb : pts[i]? = some b) (hv : v = z + g a b) : v = walkSum g pts (i + 1) := by
  show v = walkSum g pts i + stepOf g pts i
  rw [stepOf_eq ha hb, ← hz, hv]
end Mine
end
section
set_option maxRecDepth 100000
set_option linter.unusedSimpArgs false
namespace Mine
noncomputable def EnPost {σ : Type} (h₀ : Heap) (L : Addr) (names : σ → List (Str × Value)) (Led : σ → List (Addr × Obj)) (Inv : σ → Prop) (its : List (Addr × Obj)) (s₁ : Shared) (Q : Flow → Shared → Prop) (f : Flow) (s₂ : Shared) : Prop :=
  match f with
  | .ret v => Q (.ret v) s₂
  | .brk => Q .next s₂
  | _ => ∃ h' tk m' news' z, s₂ = { s₁ with heap := h', toks := tk } ∧ Fr h₀ L h' m' ∧ News h₀ L h' news' ∧ Agree m' (names z) ∧ (∀ p ∈ its, p ∈ news') ∧ (∀ p ∈ Led z, p ∈ news') ∧ Inv z
section
variable {prog : Program} {w : World} {A : Around} {E : Value → Shared → Prop} {s : Shared} {env : Env} {h₀ : Heap} {x : Str} {body : List Stmt} {Q : Flow → Shared → Prop}
theorem allObj_mono : ∀ {ws : List (Addr × String)} {k k' : List (Addr × Obj) → Prop}, (∀ its, its.map (·.1) = ws.map (·.1) → k its → k' its) → AllObj ws k → AllObj ws k'
  | [], _, _, h, a => h [] rfl a
  | w :: ws, k, k', h, a => fun o ho => allObj_mono (ws := ws) (fun its e q => h ((w.1, o) :: its) (by simp [e]) q) (a o ho)
theorem enum_rest {σ : Type} {target : Expr} {l : Addr} {lo : Obj} {vs : List Value} (names : σ → List (Str × Value)) (Led : σ → List (Addr × Obj)) (Inv : Nat → σ → Prop) (adr : List Addr) (hadr : ∀ z, (Led z).map (·.1) = adr) (I : Addr) (hI : ∀ b ∈ adr, b < I) (hm : ∀ z, (l, lo) ∈ Led z)
    (turn : ∀ (i : Nat) v T t z u h tk oe oi, vs[i]? = some v → Inv i z → IsTup h T #[.int i t, v] → Fr h₀ env.locals h (ov (names z) u) → News h₀ env.locals h ((I + 1, oe) :: (I, oi) :: Led z) →
      wpAny (model prog w) A (assign target env (.ref T)) (fun _ s₂ => wpAny (model prog w) A (execs body env) (TEnd (EnPost h₀ env.locals names Led (Inv (i + 1)) [(I + 1, oe), (I, oi)] { s with heap := h, toks := tk } Q)) E s₂) E { s with heap := h, toks := tk })
    (done : ∀ z u h tk, Inv vs.length z → Fr h₀ env.locals h (ov (names z) u) → News h₀ env.locals h (Led z) → Q .next { s with heap := h, toks := tk }) :
    ∀ (j i : Nat) (m : Str → Option Value) (z : σ), i + j = vs.length → Agree m (names z) → Inv i z → ItemsRest prog w A E h₀ env target body Q s [(I + 1, "enumerate"), (I, "list_iterator")] [(l, lo)] (enumItems i (vs.drop i)) m (Led z)
  | 0, i, m, z, hij, ha, hz => by
    have e : vs.drop i = [] := List.drop_eq_nil_of_le (by omega)
    rw [e]
    intro h tk F N
    obtain rfl : i = vs.length := by omega
    exact done z m h tk hz (ha.ov ▸ F) N
  | j + 1, i, m, z, hij, ha, hz => by
    have hlt : i < vs.length := by omega
    have e : vs.drop i = vs[i] :: vs.drop (i + 1) := List.drop_eq_getElem_cons hlt
    rw [e]
    refine ItemsRest.pair ?_
    intro T t h tk hT F oe hoe oi hoi N
    have F' : Fr h₀ env.locals h (ov (names z) m) := ha.ov ▸ F
    refine wpAny_mono (turn i vs[i] T t z m h tk oe oi (List.getElem?_eq_getElem hlt) hz hT F' N) (fun _ s₂ h₂ => wpAny_mono h₂ (fun f s₃ p => ?_) fun _ _ e => e) fun _ _ e => e
    have fin : (∃ h' tk' m' news' z', s₃ = { s with heap := h', toks := tk' } ∧ Fr h₀ env.locals h' m' ∧ News h₀ env.locals h' news' ∧ Agree m' (names z') ∧ (∀ p ∈ [(I + 1, oe), (I, oi)], p ∈ news') ∧ (∀ p ∈ Led z', p ∈ news') ∧ Inv (i + 1) z') →
        UnrEndW h₀ env.locals { s with heap := h, toks := tk } [(I + 1, oe), (I, oi)] (fun m' n' => SubL [(l, lo)] n' ∧ ItemsRest prog w A E h₀ env target body Q s [(I + 1, "enumerate"), (I, "list_iterator")] [(l, lo)] (enumItems (i + 1) (vs.drop (i + 1))) m' n') s₃ := by
      rintro ⟨h', tk', m', news', z', e3, F3, N3, ha3, hits, hled, hz3⟩
      refine ⟨h', tk', m', Led z', e3, F3, fun p hp => ?_, fun p hp q hq => ?_, ⟨hm z', trivial⟩, enum_rest names Led Inv adr hadr I hI hm turn done j (i + 1) m' z' (by omega) ha3 hz3⟩
      · rcases List.mem_append.mp hp with hp | hp
        · exact N3 p (hits p hp)
        · exact N3 p (hled p hp)
      · have h1 : p.1 < I := hI p.1 (by rw [← hadr z']; exact List.mem_map_of_mem hp)
        rcases List.mem_cons.mp hq with rfl | hq
        · exact Nat.ne_of_lt (Nat.lt_succ_of_lt h1)
        · rw [List.mem_singleton.mp hq]; exact Nat.ne_of_lt h1
    cases f with
    | ret v => exact p
    | brk => exact p
    | next => exact fin p
    | cont => exact fin p
theorem enum_inv {σ : Type} {elts : List Expr} {k : Nat} {pos : Pos} {l : Addr} {lo : Obj} {vs : List Value} {n : Nat} {m₀ : Str → Option Value} (names : σ → List (Str × Value)) (Led : σ → List (Addr × Obj)) (Inv : Nat → σ → Prop) (x₀ : σ) (adr : List Addr) (hadr : ∀ z, (Led z).map (·.1) = adr) (hm : ∀ z, (l, lo) ∈ Led z)
    (hh : A.handled = none) (hc : lo.cls = .type "list") (hd : lo.data = .seq vs.toArray n) (F : Fr h₀ env.locals s.heap m₀) (ha : Agree m₀ (names x₀)) (N : News h₀ env.locals s.heap (Led x₀)) (hi : Inv 0 x₀)
    (turn : ∀ (i : Nat) v T t z u h tk I oe oi, (∀ b ∈ adr, b < I) → vs[i]? = some v → Inv i z → IsTup h T #[.int i t, v] → Fr h₀ env.locals h (ov (names z) u) → News h₀ env.locals h ((I + 1, oe) :: (I, oi) :: Led z) →
      wpAny (model prog w) A (assign (.Tuple elts k pos) env (.ref T)) (fun _ s₂ => wpAny (model prog w) A (execs body env) (TEnd (EnPost h₀ env.locals names Led (Inv (i + 1)) [(I + 1, oe), (I, oi)] { s with heap := h, toks := tk } Q)) E s₂) E { s with heap := h, toks := tk })
    (done : ∀ z u h tk, Inv vs.length z → Fr h₀ env.locals h (ov (names z) u) → News h₀ env.locals h (Led z) → Q .next { s with heap := h, toks := tk }) :
    wpAny (model prog w) A (call (.type "enumerate") [.ref l]) (fun xv s₁ => wpAny (model prog w) A (pyIter xv) (fun it s₂ => TurnsAt prog w A h₀ env (.Tuple elts k pos) body Q E it s₂) E s₁) E s := by
  refine ktu_enum (xs := enumItems 0 vs) hh F N (hm x₀) hc hd rfl fun I hI => ?_
  have hI' : ∀ b ∈ adr, b < I := fun b hb => by
    rw [← hadr x₀] at hb
    obtain ⟨p, hp, rfl⟩ := List.mem_map.mp hb
    exact hI p hp
  exact enum_rest names Led Inv adr hadr I hI' hm (fun i v T t z u h tk oe oi h1 h2 h3 h4 h5 => turn i v T t z u h tk I oe oi hI' h1 h2 h3 h4 h5) done vs.length 0 m₀ x₀ (by omega) ha hi
theorem enum_end {σ : Type} {names : σ → List (Str × Value)} {Led : σ → List (Addr × Obj)} {Inv : σ → Prop} {its news' : List (Addr × Obj)} {L : Addr} {m' : Str → Option Value} {s₁ : Shared} {h' : Heap} {tk : Nat}
    (z : σ) (F : Fr h₀ L h' m') (N : News h₀ L h' news') (ha : Agree m' (names z)) (hz : Inv z) (h1 : ∀ p ∈ its, p ∈ news') (h2 : ∀ p ∈ Led z, p ∈ news') :
    TEnd (EnPost h₀ L names Led Inv its s₁ Q) .next { s₁ with heap := h', toks := tk } := ⟨h', tk, m', news', z, rfl, F, N, ha, h1, h2, hz⟩
theorem intsAre_val : ∀ {vs : List Value} {ns : List Int}, IntsAre vs ns → ∀ {j : Nat} {v : Value}, vs[j]? = some v → ∃ k t, v = .int k t
  | _, _, .nil, j, v, h => by simp at h
  | _, _, .cons n t r, 0, v, h => by
    simp at h; exact ⟨_, _, h.symm⟩
  | _, _, .cons n t r, j + 1, v, h => by
    simp only [List.getElem?_cons_succ] at h
    exact intsAre_val r h
theorem cells_loop {elts : List Expr} {k : Nat} {pos : Pos} {D C : Addr} {ws c0 : List Value} {u0 us : List Int} {m₀ : Str → Option Value} {news : List (Addr × Obj)}
    (hh : A.handled = none) (F : Fr h₀ env.locals s.heap m₀) (N : News h₀ env.locals s.heap ((D, W.listOf ws.toArray 0) :: (C, W.listOf c0.toArray 0) :: news)) (ha : m₀ "cells" = some (.ref C)) (hw : IntsAre ws us) (h0 : IntsAre c0 u0) (h6 : u0.length = 6)
    (turn : ∀ (i : Nat) n tn T t cv cu u h tk I oe oi, (D < I ∧ C < I ∧ AllLt I news) → IntsAre cv cu → cu.length = 6 → IsTup h T #[.int i t, .int n tn] → Fr h₀ env.locals h (ov [("cells", .ref C)] u) → News h₀ env.locals h ((I + 1, oe) :: (I, oi) :: (D, W.listOf ws.toArray 0) :: (C, W.listOf cv.toArray 0) :: news) →
      wpAny (model prog w) A (assign (.Tuple elts k pos) env (.ref T)) (fun _ s₂ => wpAny (model prog w) A (execs body env) (TEnd (EnPost h₀ env.locals (fun _ : List Value × List Int => [("cells", .ref C)]) (fun z => (D, W.listOf ws.toArray 0) :: (C, W.listOf z.1.toArray 0) :: news) (fun z => IntsAre z.1 z.2 ∧ z.2.length = 6) [(I + 1, oe), (I, oi)] { s with heap := h, toks := tk } Q)) E s₂) E { s with heap := h, toks := tk })
    (done : ∀ cv cu u h tk, IntsAre cv cu → cu.length = 6 → Fr h₀ env.locals h (ov [("cells", .ref C)] u) → News h₀ env.locals h ((D, W.listOf ws.toArray 0) :: (C, W.listOf cv.toArray 0) :: news) → Q .next { s with heap := h, toks := tk }) :
    wpAny (model prog w) A (call (.type "enumerate") [.ref D]) (fun xv s₁ => wpAny (model prog w) A (pyIter xv) (fun it s₂ => TurnsAt prog w A h₀ env (.Tuple elts k pos) body Q E it s₂) E s₁) E s := by
  refine enum_inv (σ := List Value × List Int) (lo := W.listOf ws.toArray 0) (vs := ws) (n := 0) (fun _ => [("cells", .ref C)]) (fun z => (D, W.listOf ws.toArray 0) :: (C, W.listOf z.1.toArray 0) :: news) (fun _ z => IntsAre z.1 z.2 ∧ z.2.length = 6) (c0, u0) (D :: C :: news.map (·.1)) (fun _ => rfl) (fun _ => List.mem_cons_self) hh rfl rfl F (.cons ha .nil) N ⟨h0, h6⟩ ?_ ?_
  · intro i v T t z u h tk I oe oi hI hv hz hT F1 N1
    obtain ⟨n, tn, rfl⟩ := intsAre_val hw hv
    refine turn i n tn T t z.1 z.2 u h tk I oe oi ⟨hI _ List.mem_cons_self, hI _ (List.mem_cons_of_mem _ List.mem_cons_self), ?_⟩ hz.1 hz.2 hT F1 N1
    have : ∀ b ∈ news.map (·.1), b < I := fun b hb => hI b (List.mem_cons_of_mem _ (List.mem_cons_of_mem _ hb))
    clear hI turn done N N1
    induction news with
    | nil => trivial
    | cons p r ih => exact ⟨this _ List.mem_cons_self, ih fun b hb => this b (List.mem_cons_of_mem _ hb)⟩
  · intro z u h tk hz F1 N1
    exact done z.1 z.2 u h tk hz.1 hz.2 F1 N1
end
end Mine
end
section
set_option maxRecDepth 100000
set_option linter.unusedSimpArgs false
namespace Mine
theorem lawMid1 {g h : Heap} {L D : Addr} {m : Str → Option Value} {d wh wy : Int} {t1 t2 t3 : Tok} (F : Fr g L h m) (e : Agree m [("cells", .ref D), ("draw", .int d t1), ("which", .int wh t2), ("way", .int wy t3)]) :
    ∃ u t1 t2 t3, Fr g L h (ov [("cells", .ref D), ("draw", .int d t1), ("which", .int wh t2), ("way", .int wy t3)] u) := ⟨m, t1, t2, t3, e.ov ▸ F⟩
noncomputable def Above (nw base : List (Addr × Obj)) : Prop := ∀ q ∈ nw, ∀ r ∈ base, r.1 < q.1
noncomputable def PtsJ (base : List (Addr × Obj)) (i : Nat) (ys : List Value) (nw : List (Addr × Obj)) : Prop :=
  ∃ pts : List PtV, pts.length = i ∧ ys = pts.map PtV.val ∧ (∀ p ∈ pts, (p.a, p.obj) ∈ nw ∧ p.ok) ∧ Above nw base
theorem PtsJ.zero {base : List (Addr × Obj)} : PtsJ base 0 [] [] := ⟨[], rfl, rfl, fun p h => absurd h (List.not_mem_nil), fun p h => absurd h (List.not_mem_nil)⟩
theorem allLt_mem' {d : Addr} : ∀ {l : List (Addr × Obj)}, AllLt d l → ∀ p ∈ l, p.1 < d
  | [], _, p, hp => nomatch hp
  | _ :: _, h, p, hp => by
    rcases List.mem_cons.mp hp with rfl | hp
    · exact h.1
    · exact allLt_mem' h.2 p hp
theorem PtsJ.step {base nw : List (Addr × Obj)} {i : Nat} {ys : List Value} (h : PtsJ base i ys nw) (p : PtV) (ho : p.ok) (hl : ∀ r ∈ base, r.1 < p.a) : PtsJ base (i + 1) (ys ++ [.ref p.a]) ([(p.a, p.obj)] ++ nw) := by
  obtain ⟨pts, h1, rfl, h3, h4⟩ := h
  refine ⟨pts ++ [p], by simp [h1], by simp [PtV.val], fun q hq => ?_, fun q hq r hr => ?_⟩
  · rcases List.mem_append.mp hq with hq | hq
    · exact ⟨List.mem_append_right _ (h3 q hq).1, (h3 q hq).2⟩
    · rw [List.mem_singleton.mp hq]; exact ⟨List.mem_append_left _ List.mem_cons_self, ho⟩
  · rcases List.mem_append.mp hq with hq | hq
    · rw [List.mem_singleton.mp hq]; exact hl r hr
    · exact h4 q hq r hr
theorem cell_line (k : Int) : 0 ≤ (k.fmod 16).fdiv 4 ∧ (k.fmod 16).fdiv 4 ≤ 3 := by
  rw [Int.fmod_eq_emod_of_nonneg _ (by decide), Int.fdiv_eq_ediv_of_nonneg _ (by decide)]; omega
theorem cell_three (k : Int) : 0 ≤ k.fmod 3 ∧ k.fmod 3 ≤ 2 := by
  rw [Int.fmod_eq_emod_of_nonneg _ (by decide)]; omega
theorem cell_place (k : Int) : 0 ≤ k.fmod 4 ∧ k.fmod 4 ≤ 3 := by
  rw [Int.fmod_eq_emod_of_nonneg _ (by decide)]; omega
section
open LCg
variable {prog : Program} {w : World} {A : Around} {E : Value → Shared → Prop} {s : Shared} {h₀ : Heap} {L : Addr} {m : Str → Option Value} {env : Env}
theorem comp_pts {elt : Expr} {x : Str} {scope : Scope} {cl : List (Str × Addr)} {S : List (Addr × Obj) → Prop} {P : Nat → Value → Prop} {Fin : List Value → List (Addr × Obj) → Prop} {news : List (Addr × Obj)} {n : Nat}
    (hS : ∀ nw, S (nw ++ news))
    (turn : ∀ i v ys nw I oI C oC D m₂ h tk (E' : Value → Shared → Prop), i < n → P i v → PtsJ news i ys nw → NsObj oC m₂ → m₂ x = some v → Fr h₀ L h m → News h₀ L h ((I, oI) :: (C, oC) :: (D, lst ys) :: (nw ++ news)) → Off3 I C D (nw ++ news) → ((@Ne Nat I C) ∧ (@Ne Nat I D) ∧ (@Ne Nat C D)) →
      wpAny (model prog w) A (eval elt (compEnvC scope cl C env)) (ElEnd h₀ L m { s with heap := h, toks := tk } I oI C oC D (lst ys) (fun y nw' => PtsJ news (i + 1) (ys ++ [y]) nw') news) E' { s with heap := h, toks := tk })
    (fin : ∀ ys nw, PtsJ news n ys nw → Fin ys (nw ++ news)) : CompRest prog w A h₀ L m env elt x scope cl s S P Fin n 0 [] news := comp_inv (PtsJ news) hS PtsJ.zero turn fin
theorem pts_end {g h : Heap} {base nw : List (Addr × Obj)} {I C D x : Addr} {oI oC : Obj} {ys : List Value} {a b : Int} {t u : Tok} {i : Nat} {s₁ : Shared} {tk : Nat} (F : Fr g L h m) (N : News g L h ((x, { cls := .type "tuple", data := .seq #[Value.int a t, Value.int b u] }) :: (I, oI) :: (C, oC) :: (D, lst ys) :: (nw ++ base)))
    (hlt : I < x ∧ C < x ∧ D < x ∧ AllLt x (nw ++ base)) (off : Off3 I C D (nw ++ base)) (hJ : PtsJ base i ys nw) (h1 : 0 ≤ a ∧ a ≤ 3) (h2 : 0 ≤ b ∧ b ≤ 3) :
    ElEnd g L m s₁ I oI C oC D (lst ys) (fun y nw' => PtsJ base (i + 1) (ys ++ [y]) nw') base (.ref x) { s₁ with heap := h, toks := tk } := by
  refine ElEnd.intro F N ((x, (⟨x, a, b, t, u⟩ : PtV).obj) :: nw) (fun p hp => ?_) ⟨⟨Nat.ne_of_gt hlt.1, Nat.ne_of_gt hlt.2.1, Nat.ne_of_gt hlt.2.2.1⟩, off3_left off⟩ (hJ.step ⟨x, a, b, t, u⟩ ⟨h1.1, h1.2, h2.1, h2.2⟩ (fun r hr => allLt_mem' hlt.2.2.2 r (List.mem_append_right _ hr)))
  simp only [List.mem_cons, List.cons_append] at hp ⊢
  rcases hp with h | h | h | h | h
  · exact .inr (.inl h)
  · exact .inr (.inr (.inl h))
  · exact .inr (.inr (.inr (.inl h)))
  · exact .inl h
  · exact .inr (.inr (.inr (.inr h)))
theorem off1_mem {D : Addr} : ∀ {l : List (Addr × Obj)}, Off1 D l → ∀ p ∈ l, p.1 ≠ D
  | [], _, p, hp => nomatch hp
  | _ :: _, h, p, hp => by
    rcases List.mem_cons.mp hp with rfl | hp
    · exact h.1
    · exact off1_mem h.2 p hp
/-- the ledger of the law behind its corners: the two cells ahead -/
theorem lawLed {g h : Heap} {D D' D9 c1 c2 : Addr} {o1 o2 oD o9 : Obj} {ys : List Value} {nw : List (Addr × Obj)} {n : Nat} (N : News g L h ((D, lst ys) :: (nw ++ [(D', oD), (D9, o9), (c2, o2), (c1, o1)]))) (off : Off1 D (nw ++ [(D', oD), (D9, o9), (c2, o2), (c1, o1)])) (hJ : PtsJ [(D', oD), (D9, o9), (c2, o2), (c1, o1)] n ys nw)
    (h1 : c2 < D' ∧ c1 < D') (h2 : c2 < D9 ∧ c1 < D9) (hc : c1 < c2) :
    ∃ R pts, pts.length = n ∧ News g L h ((c2, o2) :: (c1, o1) :: R) ∧ (∀ p ∈ R, p.1 ≠ c1) ∧ (∀ p ∈ R, p.1 ≠ c2) ∧ (@Ne Nat c2 c1) ∧ (D, ptsO pts n) ∈ R ∧ ∀ p ∈ pts, (p.a, p.obj) ∈ R ∧ p.ok := by
  obtain ⟨pts, e1, rfl, h3, h4⟩ := hJ
  have hoff := off1_mem off
  have key : ∀ p ∈ (D, lst (pts.map PtV.val)) :: (nw ++ [(D', oD), (D9, o9)]), p.1 ≠ c1 ∧ p.1 ≠ c2 := by
    intro p hp
    rcases List.mem_cons.mp hp with rfl | hp
    · exact ⟨(hoff (c1, o1) (by simp)).symm, (hoff (c2, o2) (by simp)).symm⟩
    · rcases List.mem_append.mp hp with hp | hp
      · exact ⟨Nat.ne_of_gt (h4 p hp (c1, o1) (by simp)), Nat.ne_of_gt (h4 p hp (c2, o2) (by simp))⟩
      · rcases List.mem_cons.mp hp with rfl | hp
        · exact ⟨Nat.ne_of_gt h1.2, Nat.ne_of_gt h1.1⟩
        · rw [List.mem_singleton.mp hp]; exact ⟨Nat.ne_of_gt h2.2, Nat.ne_of_gt h2.1⟩
  refine ⟨(D, lst (pts.map PtV.val)) :: (nw ++ [(D', oD), (D9, o9)]), pts, e1, fun p hp => N p ?_, fun p hp => (key p hp).1, fun p hp => (key p hp).2, Nat.ne_of_gt hc, ?_, fun p hp => ⟨List.mem_cons_of_mem _ (List.mem_append_left _ (h3 p hp).1), (h3 p hp).2⟩⟩
  · simp only [List.mem_cons, List.mem_append, List.not_mem_nil, or_false] at hp ⊢
    rcases hp with h | h | h | h | h | h
    · exact .inr (.inr (.inr (.inr (.inl h))))
    · exact .inr (.inr (.inr (.inr (.inr h))))
    · exact .inl h
    · exact .inr (.inl h)
    · exact .inr (.inr (.inl h))
    · exact .inr (.inr (.inr (.inl h)))
  · refine List.mem_cons.mpr (.inl ?_)
    unfold ptsO lst
    rw [List.length_map, e1]
end
end Mine
end
section
set_option maxRecDepth 100000
set_option linter.unusedSimpArgs false
namespace Mine
noncomputable def iOf : Nat → Int | 0 => 0 | 1 => 1 | 2 => 2 | 3 => 1 | 4 => 2 | _ => 0
noncomputable def jOf : Nat → Int | 0 => 1 | 1 => 2 | 2 => 0 | 3 => 0 | 4 => 1 | _ => 2
section
variable {prog : Program} {w : World} {A : Around} {E : Value → Shared → Prop} {s : Shared} {g : Heap} {L : Addr}
theorem lt_cases {r n : Nat} (h : r < n + 1) : r < n ∨ r = n := by omega
theorem news_pick {g h : Heap} {L : Addr} {l rest : List (Addr × Obj)} {x : Addr × Obj} (N : News g L h l) (hx : List.Mem x l) (hr : ∀ p, List.Mem p rest → List.Mem p l) : News g L h (x :: rest) := fun p hp => by
  rcases List.mem_cons.mp hp with rfl | hp
  · exact N _ hx
  · exact N _ (hr p hp)
theorem menu_item {value slice : Expr} {l a0 a1 a2 a3 a4 a5 : Addr} {n0 n1 n2 n3 n4 n5 : Nat} {rest : List (Addr × Obj)} {p0 q0 p1 q1 p2 q2 p3 q3 p4 q4 p5 q5 u : Tok} {k : Int} {Q : Value → Shared → Prop}
    (N : News g L s.heap ((l, W.listOf #[.ref a0, .ref a1, .ref a2, .ref a3, .ref a4, .ref a5] 0) :: (a5, { cls := .type "tuple", data := .seq #[.int 0 p5, .int 2 q5] n5 }) :: (a4, { cls := .type "tuple", data := .seq #[.int 2 p4, .int 1 q4] n4 }) :: (a3, { cls := .type "tuple", data := .seq #[.int 1 p3, .int 0 q3] n3 }) :: (a2, { cls := .type "tuple", data := .seq #[.int 2 p2, .int 0 q2] n2 }) :: (a1, { cls := .type "tuple", data := .seq #[.int 1 p1, .int 2 q1] n1 }) :: (a0, { cls := .type "tuple", data := .seq #[.int 0 p0, .int 1 q0] n0 }) :: rest))
    (z0 : n0 = 0) (z1 : n1 = 0) (z2 : n2 = 0) (z3 : n3 = 0) (z4 : n4 = 0) (z5 : n5 = 0)
    (h0 : 0 ≤ k) (h1 : k < 6) (h : ∀ la ti tj, News g L s.heap ((la, tupO [.int (iOf k.toNat) ti, .int (jOf k.toNat) tj]) :: rest) → Q (.ref la) s)
    (hs : subscripted slice false (.ref l) (.int k u) = operate [.ref l, .int k u] (getItem (.ref l) (.int k u)) := by with_unfolding_all rfl) : wpAny (model prog w) A (subscriptTail value slice (.ref l) (.int k u)) Q E s := by
  subst z0 z1 z2 z3 z4 z5
  have hl : s.heap.IsList l #[.ref a0, .ref a1, .ref a2, .ref a3, .ref a4, .ref a5] := ⟨_, (N _ List.mem_cons_self).1, rfl, _, rfl⟩
  obtain ⟨n, rfl⟩ : ∃ n : Nat, k = n := ⟨k.toNat, by omega⟩
  have hn : n < 6 := by omega
  clear h0 h1
  rcases lt_cases (n := 5) hn with hn | rfl
  case inr => exact list_item (j := 5) hl (by simp) (.inl ⟨by decide, rfl⟩) rfl (h a5 p5 q5 (news_pick N (.tail _ (.head _)) fun p hp => (.tail _ (.tail _ (.tail _ (.tail _ (.tail _ (.tail _ (.tail _ hp))))))))) hs
  rcases lt_cases (n := 4) hn with hn | rfl
  case inr => exact list_item (j := 4) hl (by simp) (.inl ⟨by decide, rfl⟩) rfl (h a4 p4 q4 (news_pick N (.tail _ (.tail _ (.head _))) fun p hp => (.tail _ (.tail _ (.tail _ (.tail _ (.tail _ (.tail _ (.tail _ hp))))))))) hs
  rcases lt_cases (n := 3) hn with hn | rfl
  case inr => exact list_item (j := 3) hl (by simp) (.inl ⟨by decide, rfl⟩) rfl (h a3 p3 q3 (news_pick N (.tail _ (.tail _ (.tail _ (.head _)))) fun p hp => (.tail _ (.tail _ (.tail _ (.tail _ (.tail _ (.tail _ (.tail _ hp))))))))) hs
  rcases lt_cases (n := 2) hn with hn | rfl
  case inr => exact list_item (j := 2) hl (by simp) (.inl ⟨by decide, rfl⟩) rfl (h a2 p2 q2 (news_pick N (.tail _ (.tail _ (.tail _ (.tail _ (.head _))))) fun p hp => (.tail _ (.tail _ (.tail _ (.tail _ (.tail _ (.tail _ (.tail _ hp))))))))) hs
  rcases lt_cases (n := 1) hn with hn | rfl
  case inr => exact list_item (j := 1) hl (by simp) (.inl ⟨by decide, rfl⟩) rfl (h a1 p1 q1 (news_pick N (.tail _ (.tail _ (.tail _ (.tail _ (.tail _ (.head _)))))) fun p hp => (.tail _ (.tail _ (.tail _ (.tail _ (.tail _ (.tail _ (.tail _ hp))))))))) hs
  rcases lt_cases (n := 0) hn with hn | rfl
  case inr => exact list_item (j := 0) hl (by simp) (.inl ⟨by decide, rfl⟩) rfl (h a0 p0 q0 (news_pick N (.tail _ (.tail _ (.tail _ (.tail _ (.tail _ (.tail _ (.head _))))))) fun p hp => (.tail _ (.tail _ (.tail _ (.tail _ (.tail _ (.tail _ (.tail _ hp))))))))) hs
  exact absurd hn (Nat.not_lt_zero _)
theorem which_bounds (d : Int) : 0 ≤ (d.fdiv 3).fmod 6 ∧ (d.fdiv 3).fmod 6 < 6 := ⟨Int.fmod_nonneg_of_pos _ (by decide), Int.fmod_lt_of_pos _ (by decide)⟩
theorem white_bounds (d : Int) : 4 ≤ 4 + (d.fdiv 18).fmod 9 ∧ 4 + (d.fdiv 18).fmod 9 ≤ 12 := by
  have h1 := Int.fmod_nonneg_of_pos (d.fdiv 18) (b := 9) (by decide)
  have h2 := Int.fmod_lt_of_pos (d.fdiv 18) (b := 9) (by decide)
  omega
end
end Mine
end
section
set_option maxRecDepth 100000
set_option linter.unusedSimpArgs false
namespace Mine
theorem compTurn2_outer (elt t1 i1 t2 i2 : Expr) (scope : Scope) (pos : Pos) (it acc : Value) (env : Env) :
    compTurn (.ListComp elt [⟨t1, i1, [], 0⟩, ⟨t2, i2, [], 0⟩] scope pos) 0 it acc env = (standAt i1.pos >>= fun _ => pyNext it >>= fun r => match r with
      | none => pure (.done .next)
      | some v => letOwnedTupleGo t1 it v >>= fun _ => assign t1 env v >>= fun _ =>
        eval i2 env >>= fun x => standAt i2.pos >>= fun _ => foldedSetIterable i2 env x >>= fun x => holding [x] (pyIter x) >>= fun it2 => runOwn (.compStart (.ListComp elt [⟨t1, i1, [], 0⟩, ⟨t2, i2, [], 0⟩] scope pos) 1 it2 acc env) env >>= fun _ =>
          again (.compLoop (.ListComp elt [⟨t1, i1, [], 0⟩, ⟨t2, i2, [], 0⟩] scope pos) 0 it acc env)) := by rfl
theorem compTurn2_inner (elt t1 i1 t2 i2 : Expr) (scope : Scope) (pos : Pos) (it acc : Value) (env : Env) :
    compTurn (.ListComp elt [⟨t1, i1, [], 0⟩, ⟨t2, i2, [], 0⟩] scope pos) 1 it acc env = (standAt i2.pos >>= fun _ => pyNext it >>= fun r => match r with
      | none => pure (.done .next)
      | some v => letOwnedTupleGo t2 it v >>= fun _ => assign t2 env v >>= fun _ =>
        (eval elt env >>= fun x => call (.builtin "list.append") [acc, x] >>= fun _ => pure ()) >>= fun _ =>
          again (.compLoop (.ListComp elt [⟨t1, i1, [], 0⟩, ⟨t2, i2, [], 0⟩] scope pos) 1 it acc env)) := by rfl
section
variable {prog : Program} {w : World} {A : Around} {E : Value → Shared → Prop} {R : Result → Shared → Prop} {s : Shared}
theorem comp2_outer {elt t1 i1 t2 i2 : Expr} {scope : Scope} {pos : Pos} {it acc : Value} {env : Env} (I : Nat → Shared → Prop)
    (turn : ∀ n s, I n s → wpAny (model prog w) A (pyNext it) (fun r s₁ => match r with
      | none => R (.ok .next) s₁
      | some v => wpAny (model prog w) A (assign t1 env v) (fun _ s₂ => wpAny (model prog w) A (eval i2 env) (fun x s₃ => wpAny (model prog w) A (pyIter x) (fun it2 s₄ =>
          codeAny (model prog w) A (.compStart (.ListComp elt [⟨t1, i1, [], 0⟩, ⟨t2, i2, [], 0⟩] scope pos) 1 it2 acc env) (fun r s₅ => match r with
            | .ok _ => ∃ m, m < n ∧ I m s₅
            | .error e => cameBackBy (model prog w) A env (notedBy (model prog w) A env fun e s' => R (.error e) s') e s₅) s₄)
          (notedBy (model prog w) A env fun e s' => R (.error e) s') s₃) (notedBy (model prog w) A env fun e s' => R (.error e) s') s₂) (notedBy (model prog w) A env fun e s' => R (.error e) s') s₁) (notedBy (model prog w) A env fun e s' => R (.error e) s') s)
    (n : Nat) (h : I n s) (ht : ∀ v, letOwnedTupleGo t1 it v = pure () := by intro _; rfl) (hf : ∀ x, foldedSetIterable i2 env x = pure x := by intro _; rfl) :
    codeAny (model prog w) A (.compLoop (.ListComp elt [⟨t1, i1, [], 0⟩, ⟨t2, i2, [], 0⟩] scope pos) 0 it acc env) R s := by
  refine codeAny_loop rfl I (fun n s hI => ?_) n h
  show wpAny _ _ ((compTurn (.ListComp elt [⟨t1, i1, [], 0⟩, ⟨t2, i2, [], 0⟩] scope pos) 0 it acc env).onRaise (fun x => do noteFrame x env; theTreesLotGoes x)) _ _ s
  refine wpAny_noted ?_
  rw [compTurn2_outer]
  refine wpAny_bind (wpAny_standAt (wpAny_bind (wpAny_mono (turn n s hI) (fun r s₁ h₁ => ?_) fun _ _ h' => h')))
  cases r with
  | none => exact wpAny_pure h₁
  | some v =>
    refine wpAny_bind (wpAny_of_eq (ht v) ?_)
    refine wpAny_bind (wpAny_mono h₁ (fun _ s₂ h₂ => wpAny_bind (wpAny_mono h₂ (fun x s₃ h₃ => wpAny_bind (wpAny_standAt (wpAny_bind (wpAny_of_eq (hf x) (wpAny_bind (wpAny_holding (wpAny_mono h₃ (fun it2 s₄ h₄ => ?_) fun _ _ h' => h'))))))) fun _ _ h' => h')) fun _ _ h' => h')
    exact wpAny_bind (wpAny_runOwn (codeAny_mono h₄ fun r s₅ hr => by
      cases r with
      | ok f => exact wpAny_pure ⟨rfl, hr⟩
      | error e => exact hr))
theorem comp2_inner {elt t1 i1 t2 i2 : Expr} {scope : Scope} {pos : Pos} {it acc : Value} {env : Env} (I : Nat → Shared → Prop)
    (turn : ∀ n s, I n s → wpAny (model prog w) A (pyNext it) (fun r s₁ => match r with
      | none => R (.ok .next) s₁
      | some v => wpAny (model prog w) A (assign t2 env v) (fun _ s₂ => wpAny (model prog w) A (eval elt env) (fun x s₃ =>
          wpAny (model prog w) A (call (.builtin "list.append") [acc, x]) (fun _ s₄ => ∃ m, m < n ∧ I m s₄) (notedBy (model prog w) A env fun e s' => R (.error e) s') s₃)
          (notedBy (model prog w) A env fun e s' => R (.error e) s') s₂) (notedBy (model prog w) A env fun e s' => R (.error e) s') s₁) (notedBy (model prog w) A env fun e s' => R (.error e) s') s)
    (n : Nat) (h : I n s) (ht : ∀ v, letOwnedTupleGo t2 it v = pure () := by intro _; rfl) :
    codeAny (model prog w) A (.compLoop (.ListComp elt [⟨t1, i1, [], 0⟩, ⟨t2, i2, [], 0⟩] scope pos) 1 it acc env) R s := by
  refine codeAny_loop rfl I (fun n s hI => ?_) n h
  show wpAny _ _ ((compTurn (.ListComp elt [⟨t1, i1, [], 0⟩, ⟨t2, i2, [], 0⟩] scope pos) 1 it acc env).onRaise (fun x => do noteFrame x env; theTreesLotGoes x)) _ _ s
  refine wpAny_noted ?_
  rw [compTurn2_inner]
  refine wpAny_bind (wpAny_standAt (wpAny_bind (wpAny_mono (turn n s hI) (fun r s₁ h₁ => ?_) fun _ _ h' => h')))
  cases r with
  | none => exact wpAny_pure h₁
  | some v =>
    refine wpAny_bind (wpAny_of_eq (ht v) ?_)
    exact wpAny_bind (wpAny_mono h₁ (fun _ s₂ h₂ => wpAny_bind (wpAny_bind (wpAny_mono h₂ (fun x s₃ h₃ => wpAny_bind (wpAny_mono h₃
      (fun _ s₄ h₄ => wpAny_pure (wpAny_pure ⟨rfl, h₄⟩)) fun _ _ h' => h')) fun _ _ h' => h'))) fun _ _ h' => h')
theorem comp2_start {elt t1 i1 t2 i2 : Expr} {scope : Scope} {pos : Pos} {it acc : Value} {env : Env}
    (h0 : codeAny (model prog w) A (.compLoop (.ListComp elt [⟨t1, i1, [], 0⟩, ⟨t2, i2, [], 0⟩] scope pos) 1 it acc env) R s)
    (h : wpAny (model prog w) A (pyIter it) (fun it' s' => codeAny (model prog w) A (.compLoop (.ListComp elt [⟨t1, i1, [], 0⟩, ⟨t2, i2, [], 0⟩] scope pos) 1 it' acc env) R s')
      (notedBy (model prog w) A env fun x s' => R (.error x) s') s) :
    codeAny (model prog w) A (.compStart (.ListComp elt [⟨t1, i1, [], 0⟩, ⟨t2, i2, [], 0⟩] scope pos) 1 it acc env) R s := by
  refine codeAny_of_tree ?_
  show wpAny _ _ ((compStart (.ListComp elt [⟨t1, i1, [], 0⟩, ⟨t2, i2, [], 0⟩] scope pos) 1 it acc env).onRaise (fun x => do noteFrame x env; standAt theWindowsPlace)) _ _ s
  refine wpAny_notedAt ?_
  unfold compStart
  show wpAny _ _ (ask >>= _) _ _ s
  refine wpAny_bind (wpAny_askSetting (wpAny_ite ?_))
  split
  · first
      | exact wpAny_bind (wpAny_pure (wpAny_pure (And.intro rfl h0)))
      | exact wpAny_pure (And.intro rfl h0)
  · first
      | exact wpAny_bind (wpAny_rule (wpAny_bind (wpAny_standAt (wpAny_bind (wpAny_mono h (fun it' s' h' => wpAny_pure (And.intro rfl h')) fun _ _ x => x)))))
      | (refine wpAny_bind (wpAny_rule ?_); show wpAny _ _ (standAt i2.pos >>= _) _ _ s; exact wpAny_bind (wpAny_standAt (wpAny_bind (wpAny_mono h (fun it' s' h' => wpAny_pure (And.intro rfl h')) fun _ _ x => x))))
end
end Mine
end
section
set_option maxRecDepth 100000
set_option linter.unusedSimpArgs false
set_option linter.unusedVariables false
namespace Mine
open LCg
section
variable {prog : Program} {w : World} {A : Around} {E : Value → Shared → Prop} {R : Result → Shared → Prop} {s : Shared} {h₀ : Heap} {L : Addr} {m : Str → Option Value} {env : Env}
/-- the state of a comprehension between its elements -/
noncomputable def StC (h₀ : Heap) (L : Addr) (m : Str → Option Value) (news : List (Addr × Obj)) (I : Addr) (oI : Obj) (C D : Addr) (x : Str) (vx : Option Value) (ys : List Value) (nw : List (Addr × Obj)) (h : Heap) : Prop :=
  ∃ oC m', Fr h₀ L h m ∧ NsObj oC m' ∧ (∀ v, vx = some v → m' x = some v) ∧ News h₀ L h ((I, oI) :: (C, oC) :: (D, lst ys) :: (nw ++ news)) ∧ ∀ p ∈ nw ++ news, p.1 ≠ I ∧ p.1 ≠ C ∧ p.1 ≠ D
/-- what an element of the inner loop shows -/
noncomputable def ElEnd2 (h₀ : Heap) (L : Addr) (m : Str → Option Value) (s₁ : Shared) (J : Addr) (oJ : Obj) (I : Addr) (oI : Obj) (C : Addr) (oC : Obj) (D : Addr) (oD : Obj) (K : Value → List (Addr × Obj) → Prop) (news : List (Addr × Obj)) (y : Value) (s₂ : Shared) : Prop :=
  ∃ h' tk nw', s₂ = { s₁ with heap := h', toks := tk } ∧ Fr h₀ L h' m ∧ News h₀ L h' ((J, oJ) :: (I, oI) :: (C, oC) :: (D, oD) :: (nw' ++ news)) ∧ (∀ p ∈ nw', p.1 ≠ J ∧ p.1 ≠ I ∧ p.1 ≠ C ∧ p.1 ≠ D) ∧ K y nw'
theorem inner2 {elt iter1 iter2 : Expr} {x y : Str} {px py : Pos} {scope : Scope} {cl : List (Str × Addr)} {pos : Pos} {n2 k0 : Nat} {K : Nat → List Value → List (Addr × Obj) → Prop} {I J C D : Addr} {oI : Obj} {vx : Value} {news nw0 : List (Addr × Obj)} {ys0 : List Value}
    (hh : A.handled = none) (hkind : scope.kind = .function) (hy : scope.names.lookup y = some .local) (hxy : x ≠ y) (hlen : ∀ k ys nw, K k ys nw → ys.length ≤ 1000)
    (hIC : (@Ne Nat I C)) (hID : (@Ne Nat I D)) (hCD : (@Ne Nat C D)) (hJI : (@Ne Nat J I)) (hJC : (@Ne Nat J C)) (hJD : (@Ne Nat J D)) (hJL : (@Ne Nat L J)) (hJ0 : h₀.get? J = none) (offJ : ∀ p ∈ nw0 ++ news, p.1 ≠ J)
    (turn : ∀ (j : Nat) u ys nw oJ oC m₂ h tk (E' : Value → Shared → Prop), j < n2 → K (k0 + j) ys nw → NsObj oC m₂ → m₂ x = some vx → m₂ y = some (.int j u) → Fr h₀ L h m → News h₀ L h ((J, oJ) :: (I, oI) :: (C, oC) :: (D, lst ys) :: (nw ++ news)) → (∀ p ∈ nw ++ news, p.1 ≠ J ∧ p.1 ≠ I ∧ p.1 ≠ C ∧ p.1 ≠ D) →
      wpAny (model prog w) A (eval elt (compEnvC scope cl C env)) (ElEnd2 h₀ L m { s with heap := h, toks := tk } J oJ I oI C oC D (lst ys) (fun v nw' => K (k0 + j + 1) (ys ++ [v]) nw') news) E' { s with heap := h, toks := tk })
    (hR : ∀ h tk ys nw, K (k0 + n2) ys nw → StC h₀ L m news I oI C D x (some vx) ys nw h → R (.ok .next) { s with heap := h, toks := tk })
    (hK : K k0 ys0 nw0) (hS : StC h₀ L m news I oI C D x (some vx) ys0 nw0 s.heap) (hJ : IsRangeIter s.heap J (0 + ((0 : Nat) : Int) * 1) ((n2 : Int) - ((0 : Nat) : Int)) 1) :
    codeAny (model prog w) A (.compLoop (.ListComp elt [⟨.Name x px, iter1, [], 0⟩, ⟨.Name y py, iter2, [], 0⟩] scope pos) 1 (.ref J) (.ref D) (compEnvC scope cl C env)) R s := by
  have W := range_walks (prog := prog) (w := w) (I := J) hh 0 n2
  refine comp2_inner (fun k s' => ∃ h tk j ys nw, s' = { s with heap := h, toks := tk } ∧ j ≤ n2 ∧ k = n2 + 1 - j ∧ K (k0 + j) ys nw ∧ StC h₀ L m news I oI C D x (some vx) ys nw h ∧ (∀ p ∈ nw ++ news, p.1 ≠ J) ∧ IsRangeIter h J (0 + ((j : Nat) : Int) * 1) ((n2 : Int) - ((j : Nat) : Int)) 1) ?_ (n2 + 1)
    ⟨s.heap, s.toks, 0, ys0, nw0, rfl, Nat.zero_le _, rfl, hK, hS, offJ, hJ⟩
  rintro k s' ⟨h, tk, j, ys, nw, rfl, hj, rfl, hKj, ⟨oC, m', F, hoC, hmx, N, off⟩, offJ', hst⟩
  have noJ : ∀ p ∈ (I, oI) :: (C, oC) :: (D, lst ys) :: (nw ++ news), p.1 ≠ J := by
    intro p hp
    rcases List.mem_cons.mp hp with rfl | hp
    · exact Ne.symm hJI
    rcases List.mem_cons.mp hp with rfl | hp
    · exact Ne.symm hJC
    rcases List.mem_cons.mp hp with rfl | hp
    · exact Ne.symm hJD
    exact offJ' p hp
  by_cases hlt : j < n2
  · refine W.item j _ _ _ hlt hst fun v h₂ tk₂ hPv hst₂ hk₂ => ?_
    obtain ⟨u, rfl⟩ := hPv
    have F₂ := fr_but F hk₂ hJL hJ0
    have N₂ := news_but N hk₂ noJ
    have hn₂ : h₂.Ns C m' := hoC.ns (N₂ (C, oC) (List.mem_cons_of_mem _ List.mem_cons_self)).1
    have zC := N (C, oC) (List.mem_cons_of_mem _ List.mem_cons_self)
    have zD := N (D, lst ys) (List.mem_cons_of_mem _ (List.mem_cons_of_mem _ List.mem_cons_self))
    have zI := N (I, oI) List.mem_cons_self
    refine wpAny_assign_Name (wpAny_storeName_local (lookup_relabel_local hy) hn₂ (fun h₃ hn₃ hs₃ => ?_) (by simp [compEnvC, relabel, hkind]))
    obtain ⟨oC', heC, hoC'⟩ := ns_obj hn₃
    have hs₃' : Heap.SameBut C h₂ h₃ := hs₃
    have hJ₃ : IsRangeIter h₃ J (0 + ((j + 1 : Nat) : Int) * 1) ((n2 : Int) - ((j + 1 : Nat) : Int)) 1 := W.frame _ _ _ hst₂ fun b hb o e => hs₃'.extBut b o (by rw [List.mem_singleton.mp hb]; exact hJC) e
    obtain ⟨oJ, heJ⟩ : ∃ o, h₃.get? J = some o := ⟨_, hJ₃⟩
    have F₃ : Fr h₀ L h₃ m := F₂.change hs₃' zC.2.1 zC.2.2
    have N₃ : News h₀ L h₃ ((J, oJ) :: (I, oI) :: (C, oC') :: (D, lst ys) :: (nw ++ news)) := fun p hp => by
      rcases List.mem_cons.mp hp with rfl | hp
      · exact ⟨heJ, Ne.symm hJL, hJ0⟩
      rcases List.mem_cons.mp hp with rfl | hp
      · exact ⟨hs₃'.extBut _ _ hIC (N₂ _ List.mem_cons_self).1, zI.2⟩
      rcases List.mem_cons.mp hp with rfl | hp
      · exact ⟨heC, zC.2⟩
      rcases List.mem_cons.mp hp with rfl | hp
      · exact ⟨hs₃'.extBut _ _ (Ne.symm hCD) (N₂ _ (List.mem_cons_of_mem _ (List.mem_cons_of_mem _ List.mem_cons_self))).1, zD.2⟩
      · have z := N₂ p (List.mem_cons_of_mem _ (List.mem_cons_of_mem _ (List.mem_cons_of_mem _ hp)))
        exact ⟨hs₃'.extBut _ _ (off p hp).2.1 z.1, z.2⟩
    refine wpAny_mono (turn j u ys nw oJ oC' _ h₃ _ _ hlt hKj hoC' (by show (if x = y then _ else m' x) = some vx; rw [if_neg hxy]; exact hmx _ rfl) (by show (if y = y then some (Value.int (0 + (j : Int)) u) else _) = _; rw [if_pos rfl, Int.zero_add]) F₃ N₃ (fun p hp => ⟨offJ' p hp, off p hp⟩)) (fun v s₄ h₄ => ?_) fun _ _ e => e
    obtain ⟨h₄, tk₄, nw₄, rfl, F₄, N₄, off₄, hK₄⟩ := h₄
    have yJ := N₄ (J, oJ) List.mem_cons_self
    have yI := N₄ (I, oI) (List.mem_cons_of_mem _ List.mem_cons_self)
    have yC := N₄ (C, oC') (List.mem_cons_of_mem _ (List.mem_cons_of_mem _ List.mem_cons_self))
    have yD := N₄ (D, lst ys) (List.mem_cons_of_mem _ (List.mem_cons_of_mem _ (List.mem_cons_of_mem _ List.mem_cons_self)))
    refine append_at (hsz := by show ys.toArray.size ≤ sizeLine; rw [List.size_toArray, sizeLine_eq]; have := hlen _ _ _ hKj; omega) yD.1 fun h₅ hs₅ hD₅ => ?_
    have offA : ∀ p ∈ nw₄ ++ news, p.1 ≠ J ∧ p.1 ≠ I ∧ p.1 ≠ C ∧ p.1 ≠ D := fun p hp => by
      rcases List.mem_append.mp hp with hp | hp
      · exact off₄ p hp
      · have hp' : p ∈ nw ++ news := List.mem_append_right _ hp
        exact ⟨offJ' p hp', off p hp'⟩
    refine ⟨n2 + 1 - (j + 1), by omega, h₅, tk₄, j + 1, ys ++ [v], nw₄, rfl, hlt, rfl, hK₄, ⟨oC', _, F₄.change hs₅ yD.2.1 yD.2.2, hoC', fun v' hv' => ?_, fun p hp => ?_, fun p hp => (offA p hp).2⟩, fun p hp => (offA p hp).1, ?_⟩
    · cases hv'
      show (if x = y then _ else m' x) = some vx
      rw [if_neg hxy]; exact hmx _ rfl
    · rcases List.mem_cons.mp hp with rfl | hp
      · exact ⟨hs₅.extBut _ _ hID yI.1, yI.2⟩
      rcases List.mem_cons.mp hp with rfl | hp
      · exact ⟨hs₅.extBut _ _ hCD yC.1, yC.2⟩
      rcases List.mem_cons.mp hp with rfl | hp
      · exact ⟨hD₅.trans (congrArg some (lst_snoc ys v)), yD.2⟩
      · have z := N₄ p (List.mem_cons_of_mem _ (List.mem_cons_of_mem _ (List.mem_cons_of_mem _ (List.mem_cons_of_mem _ hp))))
        exact ⟨hs₅.extBut _ _ (offA p hp).2.2.2 z.1, z.2⟩
    · have e1 : h₄.get? J = h₃.get? J := yJ.1.trans heJ.symm
      have e2 : h₅.get? J = some oJ := hs₅.extBut _ _ hJD yJ.1
      have hJ₃' : h₃.get? J = some _ := hJ₃
      show h₅.get? J = some _
      rw [e2, ← heJ]; exact hJ₃'
  · obtain rfl : j = n2 := Nat.le_antisymm hj (Nat.not_lt.mp hlt)
    refine W.done _ _ _ hst fun h₂ tk₂ hk₂ => ?_
    exact hR h₂ tk₂ ys nw hKj ⟨oC, m', fr_but F hk₂ hJL hJ0, hoC, hmx, news_but N hk₂ noJ, off⟩
end
end Mine
end
section
set_option maxRecDepth 100000
set_option linter.unusedSimpArgs false
set_option linter.unusedVariables false
namespace Mine
open LCg
section
variable {prog : Program} {w : World} {A : Around} {E : Value → Shared → Prop} {R : Result → Shared → Prop} {s : Shared} {h₀ : Heap} {L : Addr} {m : Str → Option Value} {env : Env}
noncomputable def Iter2 (h₀ : Heap) (L : Addr) (m : Str → Option Value) (s₁ : Shared) (n2 : Nat) (news : List (Addr × Obj)) (xv : Value) (s₂ : Shared) : Prop :=
  ∃ h' tk r t u v, xv = .ref r ∧ s₂ = { s₁ with heap := h', toks := tk } ∧ Fr h₀ L h' m ∧ News h₀ L h' news ∧ IsRange h' r 0 n2 1 t u v
theorem outer2 {elt iter1 iter2 : Expr} {x y : Str} {px py : Pos} {scope : Scope} {cl : List (Str × Addr)} {pos : Pos} {n1 n2 : Nat} {K : Nat → List Value → List (Addr × Obj) → Prop} {I C D : Addr} {news nw0 : List (Addr × Obj)} {ys0 : List Value} {oI0 : Obj}
    (hh : A.handled = none) (hkind : scope.kind = .function) (hx : scope.names.lookup x = some .local) (hy : scope.names.lookup y = some .local) (hxy : x ≠ y) (hlen : ∀ k ys nw, K k ys nw → ys.length ≤ 1000)
    (hsm : Builtin.Range.small 0 (n2 : Int) 1 = true) (hrs : Builtin.Range.rangeSize 0 (n2 : Int) 1 = (n2 : Int)) (hf : ∀ x, foldedSetIterable iter2 (compEnvC scope cl C env) x = pure x)
    (hIC : (@Ne Nat I C)) (hID : (@Ne Nat I D)) (hCD : (@Ne Nat C D))
    (it2 : ∀ ys nw oI oC m₂ h tk (E' : Value → Shared → Prop), NsObj oC m₂ → Fr h₀ L h m → News h₀ L h ((I, oI) :: (C, oC) :: (D, lst ys) :: (nw ++ news)) →
      wpAny (model prog w) A (eval iter2 (compEnvC scope cl C env)) (Iter2 h₀ L m { s with heap := h, toks := tk } n2 ((I, oI) :: (C, oC) :: (D, lst ys) :: (nw ++ news))) E' { s with heap := h, toks := tk })
    (turn : ∀ (i j : Nat) t u ys nw J oJ oI oC m₂ h tk (E' : Value → Shared → Prop), i < n1 → j < n2 → K (n2 * i + j) ys nw → NsObj oC m₂ → m₂ x = some (.int i t) → m₂ y = some (.int j u) → Fr h₀ L h m → News h₀ L h ((J, oJ) :: (I, oI) :: (C, oC) :: (D, lst ys) :: (nw ++ news)) → (∀ p ∈ nw ++ news, p.1 ≠ J ∧ p.1 ≠ I ∧ p.1 ≠ C ∧ p.1 ≠ D) →
      wpAny (model prog w) A (eval elt (compEnvC scope cl C env)) (ElEnd2 h₀ L m { s with heap := h, toks := tk } J oJ I oI C oC D (lst ys) (fun v nw' => K (n2 * i + j + 1) (ys ++ [v]) nw') news) E' { s with heap := h, toks := tk })
    (hR : ∀ h tk ys nw m', K (n2 * n1) ys nw → Fr h₀ L h m → h.Ns C m' → News h₀ L h ((D, lst ys) :: (nw ++ news)) → (∀ p ∈ nw ++ news, p.1 ≠ I ∧ p.1 ≠ C ∧ p.1 ≠ D) → R (.ok .next) { s with heap := h, toks := tk })
    (hK : K 0 ys0 nw0) (hS : StC h₀ L m news I oI0 C D x none ys0 nw0 s.heap) (hI : IsRangeIter s.heap I (0 + ((0 : Nat) : Int) * 1) ((n1 : Int) - ((0 : Nat) : Int)) 1) :
    codeAny (model prog w) A (.compLoop (.ListComp elt [⟨.Name x px, iter1, [], 0⟩, ⟨.Name y py, iter2, [], 0⟩] scope pos) 0 (.ref I) (.ref D) (compEnvC scope cl C env)) R s := by
  have W := range_walks (prog := prog) (w := w) (I := I) hh 0 n1
  refine comp2_outer (hf := hf) (fun k s' => ∃ h tk i ys nw oI, s' = { s with heap := h, toks := tk } ∧ i ≤ n1 ∧ k = n1 + 1 - i ∧ K (n2 * i) ys nw ∧ StC h₀ L m news I oI C D x none ys nw h ∧ IsRangeIter h I (0 + ((i : Nat) : Int) * 1) ((n1 : Int) - ((i : Nat) : Int)) 1) ?_ (n1 + 1)
    ⟨s.heap, s.toks, 0, ys0, nw0, oI0, rfl, Nat.zero_le _, rfl, hK, hS, hI⟩
  rintro k s' ⟨h, tk, i, ys, nw, oI, rfl, hi, rfl, hKi, ⟨oC, m', F, hoC, _, N, off⟩, hst⟩
  have zI := N (I, oI) List.mem_cons_self
  have zC := N (C, oC) (List.mem_cons_of_mem _ List.mem_cons_self)
  have zD := N (D, lst ys) (List.mem_cons_of_mem _ (List.mem_cons_of_mem _ List.mem_cons_self))
  have N1 : News h₀ L h ((C, oC) :: (D, lst ys) :: (nw ++ news)) := fun p hp => N p (List.mem_cons_of_mem _ hp)
  have noI : ∀ p ∈ (C, oC) :: (D, lst ys) :: (nw ++ news), p.1 ≠ I := by
    intro p hp
    rcases List.mem_cons.mp hp with rfl | hp
    · exact Ne.symm hIC
    rcases List.mem_cons.mp hp with rfl | hp
    · exact Ne.symm hID
    exact (off p hp).1
  by_cases hlt : i < n1
  · refine W.item i _ _ _ hlt hst fun v h₂ tk₂ hPv hst₂ hk₂ => ?_
    obtain ⟨t, rfl⟩ := hPv
    have F₂ := fr_but F hk₂ (Ne.symm zI.2.1) zI.2.2
    have N₂ := news_but N1 hk₂ noI
    have hn₂ : h₂.Ns C m' := hoC.ns (N₂ (C, oC) List.mem_cons_self).1
    refine wpAny_assign_Name (wpAny_storeName_local (lookup_relabel_local hx) hn₂ (fun h₃ hn₃ hs₃ => ?_) (by simp [compEnvC, relabel, hkind]))
    obtain ⟨oC', heC, hoC'⟩ := ns_obj hn₃
    have hs₃' : Heap.SameBut C h₂ h₃ := hs₃
    have hI₃ : IsRangeIter h₃ I (0 + ((i + 1 : Nat) : Int) * 1) ((n1 : Int) - ((i + 1 : Nat) : Int)) 1 := W.frame _ _ _ hst₂ fun b hb o e => hs₃'.extBut b o (by rw [List.mem_singleton.mp hb]; exact hIC) e
    obtain ⟨oI', heI⟩ : ∃ o, h₃.get? I = some o := ⟨_, hI₃⟩
    have F₃ : Fr h₀ L h₃ m := F₂.change hs₃' zC.2.1 zC.2.2
    have N₃ : News h₀ L h₃ ((I, oI') :: (C, oC') :: (D, lst ys) :: (nw ++ news)) := fun p hp => by
      rcases List.mem_cons.mp hp with rfl | hp
      · exact ⟨heI, zI.2⟩
      rcases List.mem_cons.mp hp with rfl | hp
      · exact ⟨heC, zC.2⟩
      rcases List.mem_cons.mp hp with rfl | hp
      · exact ⟨hs₃'.extBut _ _ (Ne.symm hCD) (N₂ _ (List.mem_cons_of_mem _ List.mem_cons_self)).1, zD.2⟩
      · have z := N₂ p (List.mem_cons_of_mem _ (List.mem_cons_of_mem _ hp))
        exact ⟨hs₃'.extBut _ _ (off p hp).2.1 z.1, z.2⟩
    refine wpAny_mono (it2 ys nw oI' oC' _ h₃ _ _ hoC' F₃ N₃) (fun xv s₄ h₄ => ?_) fun _ _ e => e
    obtain ⟨h₄, tk₄, r, ta, tb, tc, rfl, rfl, F₄, N₄, hr⟩ := h₄
    refine wpAny_pyIter_range hr hsm ?_
    generalize hH : h₄.push { cls := .type "range_iterator", data := .fields #[rawInt 0, rawInt (Builtin.Range.rangeSize 0 (n2 : Int) 1), rawInt 1] } = h₅
    have up : ∀ b o, h₄.get? b = some o → h₅.get? b = some o := fun b o e => hH ▸ Heap.get?_push_of_some _ e
    have hJ : IsRangeIter h₅ h₄.objs.size (0 + ((0 : Nat) : Int) * 1) ((n2 : Int) - ((0 : Nat) : Int)) 1 := by
      rw [← hH]; show IsRangeIter _ _ _ _ _; rw [hrs]; simpa using Heap.get?_push_size _ rfl
    have F₅ : Fr h₀ L h₅ m := F₄.keeps up
    have N₅ : News h₀ L h₅ ((I, oI') :: (C, oC') :: (D, lst ys) :: (nw ++ news)) := N₄.grown up
    have newJ : ∀ p ∈ (I, oI') :: (C, oC') :: (D, lst ys) :: (nw ++ news), (@Ne Nat p.1 h₄.objs.size) := fun p hp => Nat.ne_of_lt (Heap.lt_size (N₄ p hp).1)
    have hS5 : StC h₀ L m news I oI' C D x (some (.int (0 + (i : Int)) t)) ys nw h₅ := ⟨oC', _, F₅, hoC', fun v hv => by cases hv; show (if x = x then _ else _) = _; rw [if_pos rfl], N₅, off⟩
    have W2 := range_walks (prog := prog) (w := w) (A := A) (I := h₄.objs.size) hh 0 n2
    have loop : ∀ R' : Result → Shared → Prop, (∀ h tk ys nw, K (n2 * i + n2) ys nw → StC h₀ L m news I oI' C D x (some (.int (0 + (i : Int)) t)) ys nw h → R' (.ok .next) { s with heap := h, toks := tk }) → ∀ s₅ : Shared, s₅ = { s with heap := h₅, toks := tk₄ } →
        codeAny (model prog w) A (.compLoop (.ListComp elt [⟨.Name x px, iter1, [], 0⟩, ⟨.Name y py, iter2, [], 0⟩] scope pos) 1 (.ref h₄.objs.size) (.ref D) (compEnvC scope cl C env)) R' s₅ := by
      rintro R' hR' s₅ rfl
      refine inner2 (s := { s with heap := h₅, toks := tk₄ }) (k0 := n2 * i) hh hkind hy hxy hlen hIC hID hCD (Ne.symm (newJ _ List.mem_cons_self)) (Ne.symm (newJ _ (List.mem_cons_of_mem _ List.mem_cons_self))) (Ne.symm (newJ _ (List.mem_cons_of_mem _ (List.mem_cons_of_mem _ List.mem_cons_self)))) (Nat.ne_of_lt F₄.ns.lt) (ktu_new F₄ (Nat.le_refl _)) (fun p hp => newJ p (List.mem_cons_of_mem _ (List.mem_cons_of_mem _ (List.mem_cons_of_mem _ hp))))
        (fun j u ys nw oJ oC m₂ h tk E' hj hk hoC hmx hmy F N off => turn i j t u ys nw _ oJ oI' oC m₂ h tk E' hlt hj hk hoC (by rw [hmx, Int.zero_add]) hmy F N off) hR' hKi hS5 hJ
    refine comp2_start (loop _ ?_ _ rfl) (W2.self 0 _ _ _ hJ (loop _ ?_ _ rfl)) <;>
    · intro h tk ys nw hk ⟨oC, m', F, hoC, _, N, off⟩
      have zI' := (N (I, oI') List.mem_cons_self).1
      refine ⟨n1 + 1 - (i + 1), by omega, h, tk, i + 1, ys, nw, oI', rfl, hlt, rfl, by rw [Nat.mul_succ]; exact hk, ⟨oC, m', F, hoC, (fun v hv => nomatch hv), N, off⟩, ?_⟩
      have hI₃' : h₃.get? I = some _ := hI₃
      show h.get? I = some _
      rw [zI', ← heI]; exact hI₃'
  · obtain rfl : i = n1 := Nat.le_antisymm hi (Nat.not_lt.mp hlt)
    refine W.done _ _ _ hst fun h₂ tk₂ hk₂ => ?_
    have N₂ := news_but N1 hk₂ noI
    exact hR h₂ tk₂ ys nw m' hKi (fr_but F hk₂ (Ne.symm zI.2.1) zI.2.2) (hoC.ns (N₂ (C, oC) List.mem_cons_self).1) (fun p hp => N₂ p (List.mem_cons_of_mem _ hp)) off
theorem block_rr {elt iter1 iter2 : Expr} {x y : Str} {px py : Pos} {scope : Scope} {cl : List (Str × Addr)} {pos : Pos} (n1 n2 : Nat) (K : Nat → List Value → List (Addr × Obj) → Prop) {news : List (Addr × Obj)} {hp1 : Heap} {tk1 : Nat} {RR : Value → Addr → Result → Shared → Prop}
    (F1 : Fr h₀ L hp1 m) (N1 : News h₀ L hp1 news)
    (hcell : ∀ y ∈ scope.names, y.2 ≠ .cell) (hkind : scope.kind = .function) (hx : scope.names.lookup x = some .local) (hy : scope.names.lookup y = some .local) (hxy : x ≠ y)
    (hh : A.handled = none) (hlen : ∀ k ys nw, K k ys nw → ys.length ≤ 1000) (hK : K 0 [] [])
    (hsm1 : Builtin.Range.small 0 (n1 : Int) 1 = true) (hrs1 : Builtin.Range.rangeSize 0 (n1 : Int) 1 = (n1 : Int)) (hsm : Builtin.Range.small 0 (n2 : Int) 1 = true) (hrs : Builtin.Range.rangeSize 0 (n2 : Int) 1 = (n2 : Int))
    (it2 : ∀ ys nw I oI C oC D m₂ h tk (E' : Value → Shared → Prop), NsObj oC m₂ → Fr h₀ L h m → News h₀ L h ((I, oI) :: (C, oC) :: (D, lst ys) :: (nw ++ news)) →
      wpAny (model prog w) A (eval iter2 (compEnvC scope cl C env)) (Iter2 h₀ L m { s with heap := h, toks := tk } n2 ((I, oI) :: (C, oC) :: (D, lst ys) :: (nw ++ news))) E' { s with heap := h, toks := tk })
    (turn : ∀ (i j : Nat) t u ys nw J oJ I oI C oC D m₂ h tk (E' : Value → Shared → Prop), i < n1 → j < n2 → K (n2 * i + j) ys nw → NsObj oC m₂ → m₂ x = some (.int i t) → m₂ y = some (.int j u) → Fr h₀ L h m → News h₀ L h ((J, oJ) :: (I, oI) :: (C, oC) :: (D, lst ys) :: (nw ++ news)) → (∀ p ∈ nw ++ news, p.1 ≠ J ∧ p.1 ≠ I ∧ p.1 ≠ C ∧ p.1 ≠ D) →
      wpAny (model prog w) A (eval elt (compEnvC scope cl C env)) (ElEnd2 h₀ L m { s with heap := h, toks := tk } J oJ I oI C oC D (lst ys) (fun v nw' => K (n2 * i + j + 1) (ys ++ [v]) nw') news) E' { s with heap := h, toks := tk })
    (fin : ∀ D C h tk ys nw m', K (n2 * n1) ys nw → Fr h₀ L h m → News h₀ L h ((D, lst ys) :: (nw ++ news)) → (∀ p ∈ nw ++ news, p.1 ≠ D) → h.Ns C m' → h₀.get? C = none → C ≠ L → C ≠ D → (∀ p ∈ nw ++ news, p.1 ≠ C) → RR (.ref D) C (.ok .next) { s with heap := h, toks := tk })
    (hf : ∀ C x, foldedSetIterable iter2 (compEnvC scope cl C env) x = pure x := by intro _ _; rfl) :
    wpAny (model prog w) A (newList []) (fun acc s₃ => wpAny (model prog w) A (newFunctionEnv scope env.globals cl [] env.qual none .none (some env)) (fun cenv s₄ =>
      codeAny (model prog w) A (.compStart (.ListComp elt [⟨.Name x px, iter1, [], 0⟩, ⟨.Name y py, iter2, [], 0⟩] scope pos) 0 (.ref hp1.objs.size) acc { cenv with scope := relabel scope env }) (RR acc cenv.locals) s₄) E s₃) E { s with heap := hp1.push { cls := .type "range_iterator", data := .fields #[rawInt 0, rawInt (Builtin.Range.rangeSize 0 (n1 : Int) 1), rawInt 1] }, toks := tk1 } := by
  generalize hH : hp1.push { cls := .type "range_iterator", data := .fields #[rawInt 0, rawInt (Builtin.Range.rangeSize 0 (n1 : Int) 1), rawInt 1] } = h₂
  have up : ∀ b o, hp1.get? b = some o → h₂.get? b = some o := fun b o e => hH ▸ Heap.get?_push_of_some _ e
  have hI : IsRangeIter h₂ hp1.objs.size (0 + ((0 : Nat) : Int) * 1) ((n1 : Int) - ((0 : Nat) : Int)) 1 := by
    rw [← hH]; show IsRangeIter _ _ _ _ _; rw [hrs1]; simpa using Heap.get?_push_size _ rfl
  have hz2 : h₂.objs.size = hp1.objs.size + 1 := by rw [← hH, Heap.size_push]
  have F2 : Fr h₀ L h₂ m := F1.keeps up
  have N2 : News h₀ L h₂ news := N1.grown up
  refine wpAny_newObj_type (wpAny_newFunctionEnv hcell (by intro y hy; simp at hy) (fun h₃ hns₃ hsb₃ => ?_) hkind)
  dsimp only at hns₃ hsb₃ ⊢
  generalize hH2 : h₂.push { cls := .type "list", dict := none, data := .seq ([] : List Value).toArray } = H2 at hns₃ hsb₃ ⊢
  have hC : H2.objs.size = h₂.objs.size + 1 := by rw [← hH2, Heap.size_push]
  have hDC : h₂.objs.size ≠ H2.objs.size := by rw [hC]; exact Nat.ne_of_lt (Nat.lt_succ_self _)
  have below : ∀ b, b < h₂.objs.size → b ≠ H2.objs.size ∧ b ≠ h₂.objs.size := fun b hb => ⟨by rw [hC]; exact Nat.ne_of_lt (Nat.lt_succ_of_lt hb), Nat.ne_of_lt hb⟩
  have old : ∀ b o, h₂.get? b = some o → h₃.get? b = some o := fun b o e => hsb₃.extBut b o (below b (Heap.lt_size e)).1 (Heap.get?_push_of_some _ (hH2 ▸ Heap.get?_push_of_some _ e))
  have hacc : h₃.get? h₂.objs.size = some (lst []) := hsb₃.extBut _ _ hDC (Heap.get?_push_of_some _ (hH2 ▸ Heap.get?_push_size _ rfl))
  have hIlt : hp1.objs.size < h₂.objs.size := by rw [hz2]; exact Nat.lt_succ_self _
  have hI₀ : h₀.get? hp1.objs.size = none := ktu_new F1 (Nat.le_refl _)
  have hD₀ : h₀.get? h₂.objs.size = none := ktu_new F2 (Nat.le_refl _)
  have hC₀ : h₀.get? H2.objs.size = none := ktu_new F2 (by rw [hC]; exact Nat.le_succ _)
  have hLlt : L < h₂.objs.size := F2.ns.lt
  have hLlt1 : L < hp1.objs.size := F1.ns.lt
  obtain ⟨oC, heC, hoC⟩ := ns_obj hns₃
  obtain ⟨oI, heI⟩ : ∃ o, h₂.get? hp1.objs.size = some o := ⟨_, hI⟩
  have hI3 : IsRangeIter h₃ hp1.objs.size (0 + ((0 : Nat) : Int) * 1) ((n1 : Int) - ((0 : Nat) : Int)) 1 := old _ _ hI
  have off : ∀ p ∈ news, p.1 ≠ hp1.objs.size ∧ p.1 ≠ H2.objs.size ∧ p.1 ≠ h₂.objs.size := fun p hp => by
    have h1 := Heap.lt_size (N1 p hp).1
    have h2 := Heap.lt_size (N2 p hp).1
    exact ⟨Nat.ne_of_lt h1, (below _ h2).1, (below _ h2).2⟩
  have S0 : StC h₀ L m news hp1.objs.size oI H2.objs.size h₂.objs.size x none [] [] h₃ := by
    refine ⟨oC, _, F2.keeps old, hoC, (fun v hv => nomatch hv), fun p hp => ?_, off⟩
    rcases List.mem_cons.mp hp with rfl | hp
    · exact ⟨old _ _ heI, Nat.ne_of_gt hLlt1, hI₀⟩
    rcases List.mem_cons.mp hp with rfl | hp
    · exact ⟨heC, Ne.symm (below L hLlt).1, hC₀⟩
    rcases List.mem_cons.mp hp with rfl | hp
    · exact ⟨hacc, Nat.ne_of_gt hLlt, hD₀⟩
    · exact ⟨old _ _ (N2 p hp).1, (N2 p hp).2⟩
  have W := range_walks (prog := prog) (w := w) (A := A) (I := hp1.objs.size) hh 0 n1
  have loop : ∀ (R' : Result → Shared → Prop), (∀ h tk ys nw m', K (n2 * n1) ys nw → Fr h₀ L h m → h.Ns H2.objs.size m' → News h₀ L h ((h₂.objs.size, lst ys) :: (nw ++ news)) → (∀ p ∈ nw ++ news, p.1 ≠ hp1.objs.size ∧ p.1 ≠ H2.objs.size ∧ p.1 ≠ h₂.objs.size) → R' (.ok .next) { s with heap := h, toks := tk }) →
      ∀ s₃ : Shared, s₃ = { s with heap := h₃, toks := tk1 + ([] : List (Str × Value)).length } →
      codeAny (model prog w) A (.compLoop (.ListComp elt [⟨.Name x px, iter1, [], 0⟩, ⟨.Name y py, iter2, [], 0⟩] scope pos) 0 (.ref hp1.objs.size) (.ref h₂.objs.size) (compEnvC scope cl H2.objs.size env)) R' s₃ := by
    rintro R' hR' s₃ rfl
    exact outer2 (s := { s with heap := h₃, toks := tk1 + ([] : List (Str × Value)).length }) (nw0 := []) (ys0 := []) hh hkind hx hy hxy hlen hsm hrs (hf _) (below _ hIlt).1 (below _ hIlt).2 (Ne.symm hDC) (fun ys nw oI oC m₂ h tk E' a b c => it2 ys nw _ oI _ oC _ m₂ h tk E' a b c)
      (fun i j t u ys nw J oJ oI oC m₂ h tk E' a b c d e f g k l => turn i j t u ys nw J oJ _ oI _ oC _ m₂ h tk E' a b c d e f g k l) hR' hK S0 hI3
  refine codeAny_compStart_list (loop _ ?_ _ rfl) (W.self 0 _ _ _ hI3 (loop _ ?_ _ rfl)) <;>
  · intro h tk ys nw m' hk F' hn' N' off'
    exact fin _ _ h tk ys nw m' hk F' N' (fun p hp => (off' p hp).2.2) hn' hC₀ (Ne.symm (below L hLlt).1) (Ne.symm hDC) (fun p hp => (off' p hp).2.1)
/-- a list comprehension over two ranges -/
theorem ListComp_rr {elt iter1 iter2 : Expr} {x y : Str} {px py : Pos} {scope : Scope} {cl : List (Str × Addr)} {pos : Pos} {Q : Value → Shared → Prop} (n1 n2 : Nat) (K : Nat → List Value → List (Addr × Obj) → Prop) {news : List (Addr × Obj)}
    (F : Fr h₀ L s.heap m) (N : News h₀ L s.heap news)
    (hclos : closureFor scope env = pure cl) (hcell : ∀ y ∈ scope.names, y.2 ≠ .cell) (hkind : scope.kind = .function)
    (hnames : ∀ y ∈ scope.names, y.2 = .local → scope.names.lookup y.1 = some .local) (hx : scope.names.lookup x = some .local) (hy : scope.names.lookup y = some .local) (hxy : x ≠ y)
    (hh : A.handled = none) (hlen : ∀ k ys nw, K k ys nw → ys.length ≤ 1000) (hK : K 0 [] [])
    (hsm1 : Builtin.Range.small 0 (n1 : Int) 1 = true) (hrs1 : Builtin.Range.rangeSize 0 (n1 : Int) 1 = (n1 : Int)) (hsm : Builtin.Range.small 0 (n2 : Int) 1 = true) (hrs : Builtin.Range.rangeSize 0 (n2 : Int) 1 = (n2 : Int))
    (h1 : wpAny (model prog w) A (eval iter1 env) (Iter2 h₀ L m s n1 news) E s)
    (it2 : ∀ ys nw I oI C oC D m₂ h tk (E' : Value → Shared → Prop), NsObj oC m₂ → Fr h₀ L h m → News h₀ L h ((I, oI) :: (C, oC) :: (D, lst ys) :: (nw ++ news)) →
      wpAny (model prog w) A (eval iter2 (compEnvC scope cl C env)) (Iter2 h₀ L m { s with heap := h, toks := tk } n2 ((I, oI) :: (C, oC) :: (D, lst ys) :: (nw ++ news))) E' { s with heap := h, toks := tk })
    (turn : ∀ (i j : Nat) t u ys nw J oJ I oI C oC D m₂ h tk (E' : Value → Shared → Prop), i < n1 → j < n2 → K (n2 * i + j) ys nw → NsObj oC m₂ → m₂ x = some (.int i t) → m₂ y = some (.int j u) → Fr h₀ L h m → News h₀ L h ((J, oJ) :: (I, oI) :: (C, oC) :: (D, lst ys) :: (nw ++ news)) → (∀ p ∈ nw ++ news, p.1 ≠ J ∧ p.1 ≠ I ∧ p.1 ≠ C ∧ p.1 ≠ D) →
      wpAny (model prog w) A (eval elt (compEnvC scope cl C env)) (ElEnd2 h₀ L m { s with heap := h, toks := tk } J oJ I oI C oC D (lst ys) (fun v nw' => K (n2 * i + j + 1) (ys ++ [v]) nw') news) E' { s with heap := h, toks := tk })
    (fin : ∀ D h tk ys nw, K (n2 * n1) ys nw → Fr h₀ L h m → News h₀ L h ((D, lst ys) :: (nw ++ news)) → (∀ p ∈ nw ++ news, p.1 ≠ D) → Q (.ref D) { s with heap := h, toks := tk })
    (hs : ∀ x, foldedSetIterable iter1 env x = pure x := by intro _; rfl) (hf : ∀ C x, foldedSetIterable iter2 (compEnvC scope cl C env) x = pure x := by intro _ _; rfl) :
    wpAny (model prog w) A (eval (.ListComp elt [⟨.Name x px, iter1, [], 0⟩, ⟨.Name y py, iter2, [], 0⟩] scope pos) env) Q E s := by
  rw [eval_ListComp]
  refine wpAny_comprehension_free (use := none) rfl hs hclos hkind hnames (wpAny_mono h1 (fun xv s₁ h₁ => ?_) fun _ _ e => e)
  obtain ⟨hp1, tk1, r, ta, tb, tc, rfl, rfl, F1, N1, hr⟩ := h₁
  refine wpAny_pyIter_range hr hsm1 ?_
  refine block_rr n1 n2 K F1 N1 hcell hkind hx hy hxy hh hlen hK hsm1 hrs1 hsm hrs it2 turn (fun D C h tk ys nw m' hk F' N' offD hn' hC₀ hCL hCD offC => ?_) hf
  refine ⟨m', hn', fun h'' hs'' => fin _ h'' tk ys nw hk (F'.change hs'' hCL hC₀) (fun p hp => ?_) offD⟩
  refine ⟨hs''.extBut _ _ ?_ (N' p hp).1, (N' p hp).2⟩
  rcases List.mem_cons.mp hp with rfl | hp
  · exact Ne.symm hCD
  · exact offC p hp
theorem Assign_ListComp_rr {elt iter1 iter2 : Expr} {x y : Str} {px py : Pos} {scope : Scope} {cl : List (Str × Addr)} {pos spos : Pos} {z : Str} {pz : Pos} {Q : Flow → Shared → Prop} (n1 n2 : Nat) (K : Nat → List Value → List (Addr × Obj) → Prop) {news : List (Addr × Obj)}
    (F : Fr h₀ L s.heap m) (N : News h₀ L s.heap news)
    (hLe : env.locals = L) (hsw : swapsWith (.ListComp elt [⟨.Name x px, iter1, [], 0⟩, ⟨.Name y py, iter2, [], 0⟩] scope pos) (some (.Name z pz)) spos.line env = pure true)
    (hz : env.kindOf z = some .local) (hp : (env.scope.kind == .class || (env.scope.kind == .module && env.locals != env.globals)) = false)
    (hclos : closureFor scope env = pure cl) (hcell : ∀ y ∈ scope.names, y.2 ≠ .cell) (hkind : scope.kind = .function)
    (hnames : ∀ y ∈ scope.names, y.2 = .local → scope.names.lookup y.1 = some .local) (hx : scope.names.lookup x = some .local) (hy : scope.names.lookup y = some .local) (hxy : x ≠ y)
    (hh : A.handled = none) (hlen : ∀ k ys nw, K k ys nw → ys.length ≤ 1000) (hK : K 0 [] [])
    (hsm1 : Builtin.Range.small 0 (n1 : Int) 1 = true) (hrs1 : Builtin.Range.rangeSize 0 (n1 : Int) 1 = (n1 : Int)) (hsm : Builtin.Range.small 0 (n2 : Int) 1 = true) (hrs : Builtin.Range.rangeSize 0 (n2 : Int) 1 = (n2 : Int))
    (h1 : wpAny (model prog w) A (eval iter1 env) (Iter2 h₀ L m s n1 news) E s)
    (it2 : ∀ ys nw I oI C oC D m₂ h tk (E' : Value → Shared → Prop), NsObj oC m₂ → Fr h₀ L h m → News h₀ L h ((I, oI) :: (C, oC) :: (D, lst ys) :: (nw ++ news)) →
      wpAny (model prog w) A (eval iter2 (compEnvC scope cl C env)) (Iter2 h₀ L m { s with heap := h, toks := tk } n2 ((I, oI) :: (C, oC) :: (D, lst ys) :: (nw ++ news))) E' { s with heap := h, toks := tk })
    (turn : ∀ (i j : Nat) t u ys nw J oJ I oI C oC D m₂ h tk (E' : Value → Shared → Prop), i < n1 → j < n2 → K (n2 * i + j) ys nw → NsObj oC m₂ → m₂ x = some (.int i t) → m₂ y = some (.int j u) → Fr h₀ L h m → News h₀ L h ((J, oJ) :: (I, oI) :: (C, oC) :: (D, lst ys) :: (nw ++ news)) → (∀ p ∈ nw ++ news, p.1 ≠ J ∧ p.1 ≠ I ∧ p.1 ≠ C ∧ p.1 ≠ D) →
      wpAny (model prog w) A (eval elt (compEnvC scope cl C env)) (ElEnd2 h₀ L m { s with heap := h, toks := tk } J oJ I oI C oC D (lst ys) (fun v nw' => K (n2 * i + j + 1) (ys ++ [v]) nw') news) E' { s with heap := h, toks := tk })
    (fin : ∀ D h tk ys nw, K (n2 * n1) ys nw → Fr h₀ L h (fun y => if y = z then some (.ref D) else m y) → News h₀ L h ((D, lst ys) :: (nw ++ news)) → (∀ p ∈ nw ++ news, p.1 ≠ D) → Q .next { s with heap := h, toks := tk })
    (hs : ∀ x, foldedSetIterable iter1 env x = pure x := by intro _; rfl) (hf : ∀ C x, foldedSetIterable iter2 (compEnvC scope cl C env) x = pure x := by intro _ _; rfl) :
    wpAny (model prog w) A (exec (.Assign [.Name z pz] (.ListComp elt [⟨.Name x px, iter1, [], 0⟩, ⟨.Name y py, iter2, [], 0⟩] scope pos) spos) env) Q E s := by
  subst hLe
  rw [exec_Assign_Name_used _ _ _ _ hsw]
  refine wpAny_bind (wpAny_standAt (wpAny_bind ?_))
  show wpAny _ A (do let _ ← comprehension (.ListComp elt [⟨.Name x px, iter1, [], 0⟩, ⟨.Name y py, iter2, [], 0⟩] scope pos) scope env _ (newList []) false (eval iter1 env) (some (assign (.Name z pz) env))) _ _ s
  refine wpAny_bind (wpAny_mono (wpAny_comprehension_free (use := some (assign (.Name z pz) env)) (Q := fun _ s' => Q .next s') rfl hs hclos hkind hnames
    (wpAny_mono h1 (fun xv s₁ h₁ => ?_) fun _ _ e => e)) (fun _ s' hq => wpAny_pure (wpAny_pure hq)) fun _ _ e => e)
  obtain ⟨hp1, tk1, r, ta, tb, tc, rfl, rfl, F1, N1, hr⟩ := h₁
  refine wpAny_pyIter_range hr hsm1 ?_
  refine block_rr n1 n2 K F1 N1 hcell hkind hx hy hxy hh hlen hK hsm1 hrs1 hsm hrs it2 turn (fun D C h tk ys nw m' hk F' N' offD hn' hC₀ hCL hCD offC => ?_) hf
  show wpAny _ A (assign (.Name z pz) env (.ref D)) _ _ _
  refine wpAny_assign_Name (wpAny_storeName_local hz F'.ns (fun h₂ hn₂ hs₂ => ?_) hp)
  have hL₀ : h₀.get? env.locals = none := Heap.get?_none_of_le F'.above
  have F₂ : Fr h₀ env.locals h₂ (fun y => if y = z then some (.ref D) else m y) := ⟨hn₂, fun b o e => hs₂.extBut b o (fun q => by rw [q, hL₀] at e; cases e) (F'.keep b o e), F'.above⟩
  refine ⟨m', hn'.sameBut hs₂ hCL, fun h'' hs'' => fin D h'' _ ys nw hk (F₂.change hs'' hCL hC₀) (fun p hp => ?_) offD⟩
  have zz : h₂.get? p.1 = some p.2 := hs₂.extBut _ _ (N' p hp).2.1 (N' p hp).1
  refine ⟨hs''.extBut _ _ ?_ zz, (N' p hp).2⟩
  rcases List.mem_cons.mp hp with rfl | hp
  · exact Ne.symm hCD
  · exact offC p hp
end
end Mine
end
section
set_option maxRecDepth 100000
set_option linter.unusedSimpArgs false
set_option linter.unusedVariables false
namespace Mine
open LCg
noncomputable def SpJ (base : List (Addr × Obj)) (k : Nat) (ys : List Value) (nw : List (Addr × Obj)) : Prop :=
  k ≤ 16 ∧ ∃ pts : List PtV, pts.length = k ∧ ys = pts.map PtV.val ∧ (∀ p ∈ pts, (p.a, p.obj) ∈ nw ∧ p.ok) ∧ Above nw base ∧ ∀ (i : Nat) p, pts[i]? = some p → p.x = ((i / 4 : Nat) : Int) ∧ p.y = ((i % 4 : Nat) : Int)
theorem SpJ.zero {base : List (Addr × Obj)} : SpJ base 0 [] [] := ⟨by decide, [], rfl, rfl, fun p h => absurd h (List.not_mem_nil), fun p h => absurd h (List.not_mem_nil), fun i p h => by simp at h⟩
theorem SpJ.len {base : List (Addr × Obj)} : ∀ k ys nw, SpJ base k ys nw → ys.length ≤ 1000 := by
  rintro k ys nw ⟨hk, pts, h1, rfl, _⟩
  simp; omega
section
variable {h₀ : Heap} {L : Addr} {m : Str → Option Value}
theorem sp_end {g h : Heap} {base nw : List (Addr × Obj)} {J I C D x : Addr} {oJ oI oC : Obj} {ys : List Value} {a b : Int} {t u : Tok} {i j : Nat} {s₁ : Shared} {tk : Nat} (F : Fr g L h m) (N : News g L h ((x, { cls := .type "tuple", data := .seq #[Value.int a t, Value.int b u] }) :: (J, oJ) :: (I, oI) :: (C, oC) :: (D, lst ys) :: (nw ++ base)))
    (hlt : J < x ∧ I < x ∧ C < x ∧ D < x ∧ AllLt x (nw ++ base)) (off : ∀ p ∈ nw ++ base, p.1 ≠ J ∧ p.1 ≠ I ∧ p.1 ≠ C ∧ p.1 ≠ D) (hJ : SpJ base (4 * i + j) ys nw) (hi : i < 4) (hj : j < 4) (ha : a = (i : Int)) (hb : b = (j : Int)) :
    ElEnd2 g L m s₁ J oJ I oI C oC D (lst ys) (fun y nw' => SpJ base (4 * i + j + 1) (ys ++ [y]) nw') base (.ref x) { s₁ with heap := h, toks := tk } := by
  subst ha hb
  obtain ⟨hk, pts, h1, rfl, h3, h4, h5⟩ := hJ
  have hN : ∀ p ∈ (J, oJ) :: (I, oI) :: (C, oC) :: (D, lst (pts.map PtV.val)) :: (((x, (⟨x, i, j, t, u⟩ : PtV).obj) :: nw) ++ base), p ∈ (x, ({ cls := .type "tuple", data := .seq #[Value.int (i : Int) t, Value.int (j : Int) u] } : Obj)) :: (J, oJ) :: (I, oI) :: (C, oC) :: (D, lst (pts.map PtV.val)) :: (nw ++ base) := by
    intro p hp
    simp only [List.mem_cons, List.cons_append] at hp ⊢
    rcases hp with h | h | h | h | h | h
    · exact .inr (.inl h)
    · exact .inr (.inr (.inl h))
    · exact .inr (.inr (.inr (.inl h)))
    · exact .inr (.inr (.inr (.inr (.inl h))))
    · exact .inl h
    · exact .inr (.inr (.inr (.inr (.inr h))))
  refine ⟨h, tk, (x, (⟨x, i, j, t, u⟩ : PtV).obj) :: nw, rfl, F, fun p hp => N p (hN p hp), fun p hp => ?_, by omega, pts ++ [⟨x, i, j, t, u⟩], by simp [h1], by simp [PtV.val], fun q hq => ?_, fun q hq r hr => ?_, fun k q hq => ?_⟩
  · rcases List.mem_cons.mp hp with rfl | hp
    · exact ⟨Nat.ne_of_gt hlt.1, Nat.ne_of_gt hlt.2.1, Nat.ne_of_gt hlt.2.2.1, Nat.ne_of_gt hlt.2.2.2.1⟩
    · exact off p (List.mem_append_left _ hp)
  · rcases List.mem_append.mp hq with hq | hq
    · exact ⟨List.mem_cons_of_mem _ (h3 q hq).1, (h3 q hq).2⟩
    · rw [List.mem_singleton.mp hq]
      refine ⟨List.mem_cons_self, ?_⟩
      show 0 ≤ (i : Int) ∧ (i : Int) ≤ 3 ∧ 0 ≤ (j : Int) ∧ (j : Int) ≤ 3
      omega
  · rcases List.mem_cons.mp hq with rfl | hq
    · exact allLt_mem' hlt.2.2.2.2 r (List.mem_append_right _ hr)
    · exact h4 q hq r hr
  · by_cases hkl : k < pts.length
    · rw [List.getElem?_append_left hkl] at hq
      exact h5 k q hq
    · rw [List.getElem?_append_right (by omega)] at hq
      have hk' : k = 4 * i + j := by
        have := (List.getElem?_eq_some_iff.mp hq).1
        simp at this; omega
      subst hk'
      rw [h1, Nat.sub_self] at hq
      cases hq
      have e1 : (4 * i + j) / 4 = i := by omega
      have e2 : (4 * i + j) % 4 = j := by omega
      rw [e1, e2]; exact ⟨rfl, rfl⟩
end
section
variable {prog : Program} {w : World} {A : Around} {E : Value → Shared → Prop} {R : Result → Shared → Prop} {s : Shared} {h₀ : Heap} {L : Addr} {m : Str → Option Value} {env : Env}
theorem Assign_spots {elt iter1 iter2 : Expr} {x y : Str} {px py : Pos} {scope : Scope} {cl : List (Str × Addr)} {pos spos : Pos} {z : Str} {pz : Pos} {Q : Flow → Shared → Prop} {news : List (Addr × Obj)}
    (F : Fr h₀ L s.heap m) (N : News h₀ L s.heap news)
    (hLe : env.locals = L) (hsw : swapsWith (.ListComp elt [⟨.Name x px, iter1, [], 0⟩, ⟨.Name y py, iter2, [], 0⟩] scope pos) (some (.Name z pz)) spos.line env = pure true)
    (hz : env.kindOf z = some .local) (hp : (env.scope.kind == .class || (env.scope.kind == .module && env.locals != env.globals)) = false)
    (hclos : closureFor scope env = pure cl) (hcell : ∀ y ∈ scope.names, y.2 ≠ .cell) (hkind : scope.kind = .function)
    (hnames : ∀ y ∈ scope.names, y.2 = .local → scope.names.lookup y.1 = some .local) (hx : scope.names.lookup x = some .local) (hy : scope.names.lookup y = some .local) (hxy : x ≠ y)
    (hh : A.handled = none) 
    (h1 : wpAny (model prog w) A (eval iter1 env) (Iter2 h₀ L m s 4 news) E s)
    (it2 : ∀ ys nw I oI C oC D m₂ h tk (E' : Value → Shared → Prop), NsObj oC m₂ → Fr h₀ L h m → News h₀ L h ((I, oI) :: (C, oC) :: (D, lst ys) :: (nw ++ news)) →
      wpAny (model prog w) A (eval iter2 (compEnvC scope cl C env)) (Iter2 h₀ L m { s with heap := h, toks := tk } 4 ((I, oI) :: (C, oC) :: (D, lst ys) :: (nw ++ news))) E' { s with heap := h, toks := tk })
    (turn : ∀ (i j : Nat) t u ys nw J oJ I oI C oC D m₂ h tk (E' : Value → Shared → Prop), i < 4 → j < 4 → SpJ news (4 * i + j) ys nw → NsObj oC m₂ → m₂ x = some (.int i t) → m₂ y = some (.int j u) → Fr h₀ L h m → News h₀ L h ((J, oJ) :: (I, oI) :: (C, oC) :: (D, lst ys) :: (nw ++ news)) → (∀ p ∈ nw ++ news, p.1 ≠ J ∧ p.1 ≠ I ∧ p.1 ≠ C ∧ p.1 ≠ D) →
      wpAny (model prog w) A (eval elt (compEnvC scope cl C env)) (ElEnd2 h₀ L m { s with heap := h, toks := tk } J oJ I oI C oC D (lst ys) (fun v nw' => SpJ news (4 * i + j + 1) (ys ++ [v]) nw') news) E' { s with heap := h, toks := tk })
    (fin : ∀ D h tk ys nw, SpJ news 16 ys nw → Fr h₀ L h (fun y => if y = z then some (.ref D) else m y) → News h₀ L h ((D, lst ys) :: (nw ++ news)) → (∀ p ∈ nw ++ news, p.1 ≠ D) → Q .next { s with heap := h, toks := tk })
    (hs : ∀ x, foldedSetIterable iter1 env x = pure x := by intro _; rfl) (hf : ∀ C x, foldedSetIterable iter2 (compEnvC scope cl C env) x = pure x := by intro _ _; rfl) :
    wpAny (model prog w) A (exec (.Assign [.Name z pz] (.ListComp elt [⟨.Name x px, iter1, [], 0⟩, ⟨.Name y py, iter2, [], 0⟩] scope pos) spos) env) Q E s :=
  Assign_ListComp_rr 4 4 (SpJ news) F N hLe hsw hz hp hclos hcell hkind hnames hx hy hxy hh SpJ.len SpJ.zero (by decide) (by decide) (by decide) (by decide) h1 it2 turn fin hs hf
end
theorem lawMid2 {g h : Heap} {L a1 a2 a3 a4 : Addr} {m : Str → Option Value} {d wh wy : Int} {t1 t2 t3 : Tok} (F : Fr g L h m) (e : Agree m [("spots", .ref a4), ("one", .ref a1), ("other", .ref a2), ("sure", .bool true), ("cells", .ref a3), ("draw", .int d t1), ("which", .int wh t2), ("way", .int wy t3)]) :
    ∃ u, Fr g L h (ov [("spots", .ref a4), ("one", .ref a1), ("other", .ref a2), ("sure", .bool true), ("cells", .ref a3), ("draw", .int d t1), ("which", .int wh t2), ("way", .int wy t3)] u) := ⟨m, e.ov ▸ F⟩
theorem dict_ne_cell {g h : Heap} {L a c : Addr} {o oc : Obj} {v : Option Value} {news : List (Addr × Obj)} {K : Type} [DecidableEq K] {prog : Program} {w : World} {knd : PySem.KeyKind prog w K} {kvs : List (K × Value)} (N : News g L h news) (ha : (a, o) ∈ news) (hc : (c, oc) ∈ news) (hd : o.IsDictOf knd kvs) (hv : oc.data = .cell v) : a ≠ c := by
  rintro rfl
  have e : o = oc := Option.some.inj ((N _ ha).1.symm.trans (N _ hc).1)
  obtain ⟨es, ep, _, h2, _⟩ := hd
  rw [e, hv] at h2
  cases h2
/-- the ledger of the law behind its spots -/
theorem lawLed2 {g h : Heap} {L D x9 d1 d2 la c1 c2 : Addr} {o1 o2 oc1 oc2 ox ol : Obj} {ys : List Value} {nw R : List (Addr × Obj)} {v1 v2 : Option Value} {K : Type} [DecidableEq K] {prog : Program} {w : World} {knd : PySem.KeyKind prog w K} {kv1 kv2 : List (K × Value)}
    (N : News g L h ((D, lst ys) :: (nw ++ (x9, ox) :: (d2, o2) :: (d1, o1) :: (la, ol) :: (c2, oc2) :: (c1, oc1) :: R))) (off : ∀ p ∈ nw ++ (x9, ox) :: (d2, o2) :: (d1, o1) :: (la, ol) :: (c2, oc2) :: (c1, oc1) :: R, p.1 ≠ D)
    (hJ : SpJ ((x9, ox) :: (d2, o2) :: (d1, o1) :: (la, ol) :: (c2, oc2) :: (c1, oc1) :: R) 16 ys nw) (hd1 : o1.IsDictOf knd kv1) (hd2 : o2.IsDictOf knd kv2) (hc1 : oc1.data = .cell v1) (hc2 : oc2.data = .cell v2) (hR1 : ∀ p ∈ R, p.1 ≠ c1) (hR2 : ∀ p ∈ R, p.1 ≠ c2) :
    ∃ S spts, spts.length = 16 ∧ News g L h ((c2, oc2) :: (c1, oc1) :: S) ∧ (∀ p ∈ S, p.1 ≠ c1) ∧ (∀ p ∈ S, p.1 ≠ c2) ∧ (D, ptsO spts 16) ∈ S ∧ (d1, o1) ∈ S ∧ (d2, o2) ∈ S ∧ (∀ p ∈ R, p ∈ S) ∧ (∀ p ∈ spts, (p.a, p.obj) ∈ S ∧ p.ok) ∧ ∀ (i : Nat) p, spts[i]? = some p → p.x = ((i / 4 : Nat) : Int) ∧ p.y = ((i % 4 : Nat) : Int) := by
  obtain ⟨_, pts, e1, rfl, h3, h4, h5⟩ := hJ
  have q1 : (d1, o1) ∈ (D, lst (pts.map PtV.val)) :: (nw ++ (x9, ox) :: (d2, o2) :: (d1, o1) :: (la, ol) :: (c2, oc2) :: (c1, oc1) :: R) := by simp
  have q2 : (d2, o2) ∈ (D, lst (pts.map PtV.val)) :: (nw ++ (x9, ox) :: (d2, o2) :: (d1, o1) :: (la, ol) :: (c2, oc2) :: (c1, oc1) :: R) := by simp
  have p1 : (c1, oc1) ∈ (D, lst (pts.map PtV.val)) :: (nw ++ (x9, ox) :: (d2, o2) :: (d1, o1) :: (la, ol) :: (c2, oc2) :: (c1, oc1) :: R) := by simp
  have p2 : (c2, oc2) ∈ (D, lst (pts.map PtV.val)) :: (nw ++ (x9, ox) :: (d2, o2) :: (d1, o1) :: (la, ol) :: (c2, oc2) :: (c1, oc1) :: R) := by simp
  have key : ∀ p ∈ (D, lst (pts.map PtV.val)) :: (d1, o1) :: (d2, o2) :: (nw ++ R), p.1 ≠ c1 ∧ p.1 ≠ c2 := by
    intro p hp
    rcases List.mem_cons.mp hp with rfl | hp
    · exact ⟨(off (c1, oc1) (by simp)).symm, (off (c2, oc2) (by simp)).symm⟩
    rcases List.mem_cons.mp hp with rfl | hp
    · exact ⟨dict_ne_cell N q1 p1 hd1 hc1, dict_ne_cell N q1 p2 hd1 hc2⟩
    rcases List.mem_cons.mp hp with rfl | hp
    · exact ⟨dict_ne_cell N q2 p1 hd2 hc1, dict_ne_cell N q2 p2 hd2 hc2⟩
    rcases List.mem_append.mp hp with hp | hp
    · exact ⟨Nat.ne_of_gt (h4 p hp (c1, oc1) (by simp)), Nat.ne_of_gt (h4 p hp (c2, oc2) (by simp))⟩
    · exact ⟨hR1 p hp, hR2 p hp⟩
  refine ⟨(D, lst (pts.map PtV.val)) :: (d1, o1) :: (d2, o2) :: (nw ++ R), pts, e1, fun p hp => N p ?_, fun p hp => (key p hp).1, fun p hp => (key p hp).2, ?_, by simp, by simp, fun p hp => by simp [hp], fun p hp => ⟨by simp [(h3 p hp).1], (h3 p hp).2⟩, h5⟩
  · rcases List.mem_cons.mp hp with rfl | hp
    · exact p2
    rcases List.mem_cons.mp hp with rfl | hp
    · exact p1
    rcases List.mem_cons.mp hp with rfl | hp
    · simp
    rcases List.mem_cons.mp hp with rfl | hp
    · exact q1
    rcases List.mem_cons.mp hp with rfl | hp
    · exact q2
    rcases List.mem_append.mp hp with hp | hp
    · exact List.mem_cons_of_mem _ (List.mem_append_left _ hp)
    · refine List.mem_cons_of_mem _ (List.mem_append_right _ ?_)
      repeat (refine List.mem_cons_of_mem _ ?_)
      exact hp
  · refine List.mem_cons.mpr (.inl ?_)
    unfold ptsO lst
    rw [List.length_map, e1]
end Mine
end
section
set_option maxRecDepth 100000
namespace Mine
noncomputable def RoundV (pts : List PtV) (sp : PtV) (v : Value) : Prop := v = .none ∨ ∃ t, v = .int (walkSum (rR sp) pts pts.length) t ∧ ∀ i, i < pts.length → offStep sp pts i = true
noncomputable def RoundsJ (pts spts : List PtV) (i : Nat) (ys : List Value) : Prop := ys.length = i ∧ ∀ (k : Nat) sp v, spts[k]? = some sp → ys[k]? = some v → RoundV pts sp v
theorem RoundsJ.zero {pts spts : List PtV} : RoundsJ pts spts 0 [] := ⟨rfl, fun k sp v _ h => by simp at h⟩
theorem RoundsJ.step {pts spts : List PtV} {i : Nat} {ys : List Value} {sp : PtV} {v : Value} (h : RoundsJ pts spts i ys) (hs : spts[i]? = some sp) (hv : RoundV pts sp v) : RoundsJ pts spts (i + 1) (ys ++ [v]) := by
  refine ⟨by simp [h.1], fun k sp' v' h1 h2 => ?_⟩
  by_cases hk : k < ys.length
  · rw [List.getElem?_append_left hk] at h2
    exact h.2 k sp' v' h1 h2
  · rw [List.getElem?_append_right (by omega)] at h2
    have hki : k = i := by
      have := (List.getElem?_eq_some_iff.mp h2).1
      simp at this; have := h.1; omega
    subst hki
    rw [hs] at h1; cases h1
    rw [h.1, Nat.sub_self] at h2; cases h2
    exact hv
end Mine
end
section
set_option maxRecDepth 100000
namespace Mine
/-- two corners crosswise -/
noncomputable def cr (a b : PtV) : Int := a.x * b.y - b.x * a.y
noncomputable def crossL (pts : List PtV) (i : Nat) : List Int := (List.range i).map (stepOf cr pts)
noncomputable def CrossJ (pts : List PtV) (i : Nat) (ys : List Value) (nw : List (Addr × Obj)) : Prop := nw = [] ∧ IntsAre ys (crossL pts i)
theorem CrossJ.zero {pts : List PtV} : CrossJ pts 0 [] [] := ⟨rfl, .nil⟩
theorem CrossJ.step {pts : List PtV} {i : Nat} {ys : List Value} {a b : PtV} {v : Int} {t : Tok} (h : IntsAre ys (crossL pts i)) (ha : pts[prevI pts.length i]? = some a) (hb : pts[i]? = some b) (hv : v = cr a b) : CrossJ pts (i + 1) (ys ++ [.int v t]) [] := by
  subst hv
  refine ⟨rfl, ?_⟩
  unfold crossL
  rw [List.range_succ, List.map_append, ← stepOf_eq (g := cr) ha hb]
  exact IntsAre.append h (.cons _ _ .nil)
theorem sum_steps (g : PtV → PtV → Int) (pts : List PtV) : ∀ n, ((List.range n).map (stepOf g pts)).sum = walkSum g pts n
  | 0 => rfl
  | n + 1 => by
    rw [List.range_succ, List.map_append, List.sum_append, sum_steps g pts n]
    simp [walkSum]
theorem crossL_sum (pts : List PtV) (n : Nat) : (crossL pts n).sum = walkSum cr pts n := sum_steps cr pts n
theorem small3 {n : Nat} (h3 : 3 ≤ n) (h5 : n ≤ 5) : Builtin.Range.small 0 (n : Int) 1 = true := by
  obtain rfl | rfl | rfl : n = 3 ∨ n = 4 ∨ n = 5 := by omega
  all_goals decide
end Mine
end
local macro_rules | `(tactic| k_all) => `(tactic| first | assumption | (refine List.forall_mem_append.mpr ⟨?_, ?_⟩ <;> k_all))
section
namespace Mine
theorem ite_known {c : Prop} [Decidable c] {P Q : Prop} (hc : c) (h : P) : if c then P else Q := by rw [if_pos hc]; exact h
section
variable {w : World} {mean : ExcName → Option Value} {mg mb : Str → Option Value} {dp un : Nat} {gd : Option (List Code)} {cn : Str} {cs : Scope} {a : Addr} {ccd : Value} {cl : List (Str × Addr)} {outer : List Env} {A₀ : Around} {base h₀ : Heap} {L : Addr} {m : Str → Option Value} {news : List (Addr × Obj)} {s : Shared} {Q E : Value → Shared → Prop}

noncomputable def pt (i j W l p k : Int) : Int := W + (if k = i then l else 0) + (if k = j then p else 0)
theorem unit_eq : hsvS 16 16 15 = unitF := by decide +kernel

theorem isList_lst {g h : Heap} {L a : Addr} {ys : List Value} {news : List (Addr × Obj)} (N : News g L h news) (hm : (a, LCg.lst ys) ∈ news) : h.IsList a ys.toArray := ⟨_, (N _ hm).1, rfl, _, rfl⟩
theorem eq_same {prog : Program} {w : World} {A : Around} {E : Value → Shared → Prop} {s : Shared} {a b : Addr} {xs ys : List Value} {ns : List Int} {Q : Value → Shared → Prop} (ha : s.heap.IsList a xs.toArray) (hb : s.heap.IsList b ys.toArray) (hi : IntsAre xs ns) (hj : IntsAre ys ns) (hu : A.units + 64 < cLine) (h : Q (.bool true) s) :
    wpAny (model prog w) A (compareOp .Eq (.ref a) (.ref b)) Q E s := by
  refine ke_eq_ints ha hb hi hj hu ?_
  have e : decide (ns = ns) = true := by simp
  rw [e]; exact h
noncomputable def zeroAt (W : Int) : Bool := (Float64.cmpInt (hsvH W W W) 0 == some .eq) && (Float64.cmpInt (hsvS W W W) 0 == some .eq) && mxI W W W == W && (Float64.cmp (hlsL (scl W) (scl W) (scl W)) (scl W) == some .eq) && (Float64.cmpInt (hlsS (scl W) (scl W) (scl W)) 0 == some .eq)
theorem zeroAt_facts {W : Int} (h : zeroAt W = true) : (Float64.cmpInt (hsvH W W W) 0 == some .eq) = true ∧ (Float64.cmpInt (hsvS W W W) 0 == some .eq) = true ∧ mxI W W W = W ∧ (Float64.cmp (hlsL (scl W) (scl W) (scl W)) (scl W) == some .eq) = true ∧ (Float64.cmpInt (hlsS (scl W) (scl W) (scl W)) 0 == some .eq) = true := by
  simp only [zeroAt, Bool.and_eq_true] at h
  obtain ⟨⟨⟨⟨a, b⟩, c⟩, d⟩, e⟩ := h
  exact ⟨a, b, by simpa using c, d, e⟩
structure SeenSt where
  o1 : Obj
  o2 : Obj
  kv1 : List (Int × Value)
  kv2 : List (Int × Value)
noncomputable def SeenSt.Inv (w : World) (f : Nat → Int) (n : Nat) (q : SeenSt) : Prop :=
  Obj.IsDictOf (PySem.intKind pg w) q.o1 q.kv1 ∧ Obj.IsDictOf (PySem.intKind pg w) q.o2 q.kv2 ∧ SeenK q.kv1 n f ∧ SeenK q.kv2 n f
noncomputable def seenLed (d1 d2 la : Addr) (ol : Obj) (news : List (Addr × Obj)) (q : SeenSt) : List (Addr × Obj) := (d2, q.o2) :: (d1, q.o1) :: (la, ol) :: news
noncomputable def seenNames (la d1 d2 : Addr) (W : Int) (tw tu : Tok) : List (Str × Value) := [("lamps", .ref la), ("white", .int W tw), ("unit", .float unitF tu), ("one", .ref d1), ("other", .ref d2), ("sure", .bool true)]

theorem flat_led {g h : Heap} {L d1 d2 la : Addr} {ol : Obj} {news own own2 : List (Addr × Obj)} {q : SeenSt} (N : News g L h (seenLed d1 d2 la ol news q ++ own ++ own2)) : News g L h ((d2, q.o2) :: (d1, q.o1) :: (la, ol) :: (news ++ (own ++ own2))) := by
  simpa only [seenLed, List.cons_append, List.append_assoc] using N
theorem pack_seen {g h : Heap} {L la d1 d2 D x9 : Addr} {m : Str → Option Value} {o1 o2 ol oD o9 : Obj} {news : List (Addr × Obj)} {W : Int} {tw tu : Tok} {x : UInt64}
    (F : Fr g L h m) (N : News g L h ((D, oD) :: (d2, o2) :: (d1, o1) :: (x9, o9) :: (la, ol) :: news)) (e : x = unitF)
    (m1 : m "lamps" = some (.ref la)) (m2 : m "white" = some (.int W tw)) (m3 : m "unit" = some (.float x tu)) (m4 : m "one" = some (.ref d1)) (m5 : m "other" = some (.ref d2)) (m6 : m "sure" = some (.bool true))
    (i1 : Obj.IsDictOf (PySem.intKind pg w) o1 []) (i2 : Obj.IsDictOf (PySem.intKind pg w) o2 []) (l1 : x9 < d1 ∧ la < d1 ∧ AllLt d1 news) (l2 : d1 < d2 ∧ x9 < d2 ∧ la < d2 ∧ AllLt d2 news) (f : Nat → Int) :
    ∃ d1 d2 q tu, Agree m (seenNames la d1 d2 W tw tu) ∧ News g L h (seenLed d1 d2 la ol news q) ∧ SeenSt.Inv w f (7 * 0) q ∧ la < d1 ∧ d1 < d2 ∧ AllLt d1 news ∧ AllLt d2 news := by
  subst e
  refine ⟨d1, d2, ⟨o1, o2, [], []⟩, tu, .cons m1 (.cons m2 (.cons m3 (.cons m4 (.cons m5 (.cons m6 .nil))))), fun p hp => N p ?_, ⟨i1, i2, .nil, .nil⟩, l1.2.1, l2.1, l1.2.2, l2.2.2.2⟩
  simp only [seenLed, List.mem_cons] at hp ⊢
  rcases hp with h | h | h | h <;> simp [h]

theorem allLt_mem {d : Addr} : ∀ {l : List (Addr × Obj)}, AllLt d l → ∀ p ∈ l, p.1 < d
  | [], _, p, hp => nomatch hp
  | _ :: _, h, p, hp => by
    rcases List.mem_cons.mp hp with rfl | hp
    · exact h.1
    · exact allLt_mem h.2 p hp
noncomputable def bodyNames (la d1 d2 : Addr) (W : Int) (tw tu : Tok) (r g b l p : Int) (tx ty tr tg tb : Tok) (pa : Addr) : List (Str × Value) :=
  ("parts", .ref pa) :: ("red", .int r tr) :: ("green", .int g tg) :: ("blue", .int b tb) :: ("places", .int p ty) :: ("lines", .int l tx) :: seenNames la d1 d2 W tw tu
noncomputable def Mid1 (g : Heap) (L la d1 d2 : Addr) (W : Int) (tw tu : Tok) (r g' b l p : Int) (tx ty : Tok) (led : List (Addr × Obj)) (s : Shared) (s' : Shared) : Prop :=
  ∃ h' tk' u pa tr tg tb t1 t2 t3 n, s' = { s with heap := h', toks := tk' } ∧ Fr g L h' (ov (bodyNames la d1 d2 W tw tu r g' b l p tx ty tr tg tb pa) u) ∧
    News g L h' ((pa, { cls := .type "list", data := .seq #[.int r t1, .int g' t2, .int b t3] n }) :: led) ∧ (∀ p ∈ led, p.1 < pa)

noncomputable def bodyNames2 (la d1 d2 : Addr) (W : Int) (tw tu : Tok) (r g b l p : Int) (tx ty tr tg tb : Tok) (pa : Addr) (t4 t5 t6 t7 t8 t9 : Tok) : List (Str × Value) :=
  ("hue", .float (hsvH r g b) t4) :: ("share", .float (hsvS r g b) t5) :: ("value", .int (mxI r g b) t6) :: ("again", .float (hsvH r g b) t7) ::
  ("light", .float (hlsL (scl r) (scl g) (scl b)) t8) :: ("deep", .float (hlsS (scl r) (scl g) (scl b)) t9) :: bodyNames la d1 d2 W tw tu r g b l p tx ty tr tg tb pa
/-- behind the two stores -/
noncomputable def Mid2 (w : World) (g : Heap) (L la d1 d2 : Addr) (ol : Obj) (W : Int) (tw tu : Tok) (r g' b l p : Int) (tx ty tr tg tb t1 t2 t3 : Tok) (pa : Addr) (n : Nat) (f : Nat → Int) (k : Nat) (tl : List (Addr × Obj)) (s : Shared) (s' : Shared) : Prop :=
  ∃ h' tk' u q t4 t5 t6 t7 t8 t9, s' = { s with heap := h', toks := tk' } ∧ Fr g L h' (ov (bodyNames2 la d1 d2 W tw tu r g' b l p tx ty tr tg tb pa t4 t5 t6 t7 t8 t9) u) ∧
    News g L h' ((pa, { cls := .type "list", data := .seq #[.int r t1, .int g' t2, .int b t3] n }) :: (d2, q.o2) :: (d1, q.o1) :: (la, ol) :: tl) ∧ SeenSt.Inv w f k q ∧ t8 ≠ 0
theorem mid2_in {w : World} {g h' : Heap} {L la d1 d2 pa y1 y2 : Addr} {ol oy1 oy2 o1 o2 : Obj} {kv1 kv2 : List (Int × Value)} {m' : Str → Option Value} {W : Int} {tw tu : Tok} {r g' b l p : Int} {tx ty tr tg tb t1 t2 t3 t4 t5 t6 t7 t8 t9 ta tc : Tok} {n k : Nat} {f : Nat → Int} {tl : List (Addr × Obj)} {s : Shared} {tk : Nat} {key v : Int}
    (F : Fr g L h' m') (N : News g L h' ((y1, oy1) :: (y2, oy2) :: (pa, { cls := .type "list", data := .seq #[.int r t1, .int g' t2, .int b t3] n }) :: (d2, o2) :: (d1, o1) :: (la, ol) :: tl))
    (hm : Agree m' (bodyNames2 la d1 d2 W tw tu r g' b l p tx ty tr tg tb pa t4 t5 t6 t7 t8 t9)) (i1 : Obj.IsDictOf (PySem.intKind pg w) o1 (stored kv1 key (.int v ta))) (i2 : Obj.IsDictOf (PySem.intKind pg w) o2 (stored kv2 key (.int v tc)))
    (hn : t8 ≠ 0) (s1 : SeenK kv1 k f) (s2 : SeenK kv2 k f) (hk : key = (k : Int) - 24) (hv : v = f k) :
    AtMid (Mid2 w g L la d1 d2 ol W tw tu r g' b l p tx ty tr tg tb t1 t2 t3 pa n f (k + 1) tl s) .next { s with heap := h', toks := tk } :=
  ⟨rfl, h', tk, m', ⟨o1, o2, _, _⟩, t4, t5, t6, t7, t8, t9, rfl, hm.ov ▸ F, fun p hp => N p (List.mem_cons_of_mem _ (List.mem_cons_of_mem _ hp)), ⟨i1, i2, s1.put hk hv, s2.put hk hv⟩, hn⟩
theorem body4b {M : Model} {A : Around} {E : Value → Shared → Prop} {s : Shared} {env : Env} {Q : Flow → Shared → Prop} {s1 s2 s3 s4 : Stmt} {rest : List Stmt} {w : World} {g h : Heap} {L la d1 d2 pa : Addr} {ol : Obj} {m : Str → Option Value} {W : Int} {tw tu : Tok} {r g' b l p : Int} {tx ty tr tg tb t1 t2 t3 : Tok} {n k : Nat} {f : Nat → Int} {tl : List (Addr × Obj)} (_F : Fr g L h m)
    (h1 : wpAny M A (execs [s1, s2, s3, s4] env) (AtMid (Mid2 w g L la d1 d2 ol W tw tu r g' b l p tx ty tr tg tb t1 t2 t3 pa n f k tl s)) E s) (h2 : ∀ s', Mid2 w g L la d1 d2 ol W tw tu r g' b l p tx ty tr tg tb t1 t2 t3 pa n f k tl s s' → wpAny M A (execs rest env) Q E s') : wpAny M A (execs (s1 :: s2 :: s3 :: s4 :: rest) env) Q E s := seq4 _ h1 h2
theorem mid1_in {g h' : Heap} {L la d1 d2 pa : Addr} {m' : Str → Option Value} {W : Int} {tw tu : Tok} {r g' b l p r1 g1 b1 : Int} {tx ty tr tg tb t1 t2 t3 : Tok} {n : Nat} {led : List (Addr × Obj)} {s : Shared} {tk : Nat}
    (F : Fr g L h' m') (N : News g L h' ((pa, { cls := .type "list", data := .seq #[.int r1 t1, .int g1 t2, .int b1 t3] n }) :: led)) (hm : Agree m' (bodyNames la d1 d2 W tw tu r1 g1 b1 l p tx ty tr tg tb pa)) (e1 : r1 = r) (e2 : g1 = g') (e3 : b1 = b) (hl : ∀ p ∈ led, p.1 < pa) :
    AtMid (Mid1 g L la d1 d2 W tw tu r g' b l p tx ty led s) .next { s with heap := h', toks := tk } := by
  subst e1 e2 e3
  exact ⟨rfl, h', tk, m', pa, tr, tg, tb, t1, t2, t3, n, rfl, hm.ov ▸ F, N, hl⟩
theorem allLt3 {a b c l : Addr} {oa ob oc : Obj} {tl : List (Addr × Obj)} (h : a < l ∧ b < l ∧ c < l ∧ AllLt l tl) : ∀ p ∈ (a, oa) :: (b, ob) :: (c, oc) :: tl, p.1 < l := by
  intro p hp
  rcases List.mem_cons.mp hp with rfl | hp
  · exact h.1
  rcases List.mem_cons.mp hp with rfl | hp
  · exact h.2.1
  rcases List.mem_cons.mp hp with rfl | hp
  · exact h.2.2.1
  exact allLt_mem h.2.2.2 p hp
theorem pt_bound {i j W l p k : Int} (hij : i ≠ j) (hw : 4 ≤ W) (hw' : W ≤ 12) (h1 : -3 ≤ l) (h2 : l ≤ 3) (h3 : -3 ≤ p) (h4 : p ≤ 3) : 1 ≤ pt i j W l p k ∧ pt i j W l p k ≤ 16 := by
  unfold pt
  split <;> split <;> omega
noncomputable def OkV (v : Value) (x : Int) : Prop := ∃ k : Num, k.Is v ∧ qN 2000 k = 1000 * x ∧ finN 2000 k = true
theorem Num.Is.one {k k' : Num} {v : Value} (h : k.Is v) (h' : k'.Is v) : k = k' := by
  cases k <;> cases k' <;> obtain ⟨t, e⟩ := h <;> obtain ⟨t', e'⟩ := h' <;> rw [e] at e' <;> cases e' <;> rfl
theorem OkV.at {v : Value} {x : Int} (h : OkV v x) {y : Value} (hy : ∃ k : Num, k.Is v ∧ ∃ t, y = .int (qN 2000 k) t) : ∃ t, y = .int (1000 * x) t := by
  obtain ⟨k, hk, hq, _⟩ := h
  obtain ⟨k', hk', t, rfl⟩ := hy
  rw [← hk.one hk', hq]
  exact ⟨t, rfl⟩
theorem OkV.of {k : Num} {v : Value} {x : Int} (h : okN k x = true) (hv : k.Is v) : OkV v x := by
  simp only [okN, Bool.and_eq_true, beq_iff_eq] at h
  exact ⟨k, hv, h.1, h.2⟩
structure OkFacts (r g b : Int) : Prop where
  k1 : Float64.isZero (Float64.add (mxF (scl r) (scl g) (scl b)) (mnF (scl r) (scl g) (scl b))) = false
  k2 : Float64.isZero (Float64.sub (Float64.sub 4611686018427387904 (mxF (scl r) (scl g) (scl b))) (mnF (scl r) (scl g) (scl b))) = false
  k3 : (Float64.cmp (mnF (scl r) (scl g) (scl b)) (mxF (scl r) (scl g) (scl b)) == some .eq) = true ∨ Float64.isZero (Float64.sub (mxF (scl r) (scl g) (scl b)) (mnF (scl r) (scl g) (scl b))) = false
  k4 : hlsH (scl r) (scl g) (scl b) = hsvH r g b
  k5 : Float64.isFinite (Float64.mul (hsvH r g b) 4618441417868443648) = true
  k6 : (Flt.toInt Float64.truncOf (Float64.mul (hsvH r g b) 4618441417868443648)).natAbs < 100
  k7 : Float64.isFinite (Float64.add (Float64.mul (Float64.ofInt 720000) (hsvH r g b)) (Float64.ofInt 1)) = true
  k8 : (Float64.cmp (hsvH r g b) (hsvH r g b) == some .eq) = true
  k11 : (Float64.cmpInt (hsvH r g b) 0 == some .gt || Float64.cmpInt (hsvH r g b) 0 == some .eq) = true
  k12 : (Float64.cmpInt (hsvH r g b) 1 == some .lt) = true
  o1 : okN (s2r (hsvH r g b) (hsvS r g b) (mxI r g b)).1 r = true
  o2 : okN (s2r (hsvH r g b) (hsvS r g b) (mxI r g b)).2.1 g = true
  o3 : okN (s2r (hsvH r g b) (hsvS r g b) (mxI r g b)).2.2 b = true
  o4 : okN (.F (Float64.mul (Float64.ofInt 16) (h2r (hsvH r g b) (hlsL (scl r) (scl g) (scl b)) (hlsS (scl r) (scl g) (scl b)) (Float64.add (hsvH r g b) 4599676419421066581)))) r = true
  o5 : okN (.F (Float64.mul (Float64.ofInt 16) (h2r (hsvH r g b) (hlsL (scl r) (scl g) (scl b)) (hlsS (scl r) (scl g) (scl b)) (hsvH r g b)))) g = true
  o6 : okN (.F (Float64.mul (Float64.ofInt 16) (h2r (hsvH r g b) (hlsL (scl r) (scl g) (scl b)) (hlsS (scl r) (scl g) (scl b)) (Float64.sub (hsvH r g b) 4599676419421066581)))) b = true
theorem okAt_facts {r g b : Int} (h : okAt r g b = true) : OkFacts r g b := by
  simp only [okAt, Bool.and_eq_true, Bool.or_eq_true, Bool.not_eq_true', beq_iff_eq, decide_eq_true_eq] at h
  obtain ⟨⟨⟨⟨⟨⟨⟨⟨⟨⟨⟨⟨⟨⟨⟨h1, h2⟩, h3⟩, h4⟩, h5⟩, h6⟩, h7⟩, h8⟩, h8a⟩, h8b⟩, h9⟩, h10⟩, h11⟩, h12⟩, h13⟩, h14⟩ := h
  rw [h7] at h8 h12 h13 h14
  exact ⟨h1, h2, by simpa using h3, h7, h4, h5, h6, by simpa using h8, by simpa using h8a, by simpa using h8b, h9, h10, h11, h12, h13, h14⟩
noncomputable def madeNames (la d1 d2 : Addr) (W : Int) (tw tu : Tok) (r g b l p : Int) (tx ty tr tg tb : Tok) (pa : Addr) (t4 t5 t6 t7 t8 t9 : Tok) (ma : Addr) : List (Str × Value) :=
  ("made", .ref ma) :: bodyNames2 la d1 d2 W tw tu r g b l p tx ty tr tg tb pa t4 t5 t6 t7 t8 t9
/-- behind the parts that are made again -/
noncomputable def Mid3 (g : Heap) (L la d1 d2 : Addr) (W : Int) (tw tu : Tok) (r g' b l p : Int) (tx ty tr tg tb : Tok) (pa : Addr) (t4 t5 t6 t7 t8 t9 : Tok) (led : List (Addr × Obj)) (s : Shared) (s' : Shared) : Prop :=
  ∃ h' tk' u ma v1 v2 v3 v4 v5 v6 n, s' = { s with heap := h', toks := tk' } ∧ Fr g L h' (ov (madeNames la d1 d2 W tw tu r g' b l p tx ty tr tg tb pa t4 t5 t6 t7 t8 t9 ma) u) ∧
    News g L h' ((ma, { cls := .type "list", data := .seq #[v1, v2, v3, v4, v5, v6] n }) :: led) ∧ OkV v1 r ∧ OkV v2 g' ∧ OkV v3 b ∧ OkV v4 r ∧ OkV v5 g' ∧ OkV v6 b
theorem mid3_in {g h' : Heap} {L la d1 d2 pa ma y1 y2 y3 y4 : Addr} {oy1 oy2 oy3 oy4 : Obj} {m' : Str → Option Value} {W : Int} {tw tu : Tok} {r g' b l p : Int} {tx ty tr tg tb t4 t5 t6 t7 t8 t9 : Tok} {n : Nat} {led : List (Addr × Obj)} {s : Shared} {tk : Nat} {v1 v2 v3 v4 v5 v6 : Value}
    (F : Fr g L h' m') (N : News g L h' ((ma, { cls := .type "list", data := .seq #[v1, v2, v3, v4, v5, v6] n }) :: (y1, oy1) :: (y2, oy2) :: (y3, oy3) :: (y4, oy4) :: led))
    (hm : Agree m' (madeNames la d1 d2 W tw tu r g' b l p tx ty tr tg tb pa t4 t5 t6 t7 t8 t9 ma)) (h1 : OkV v1 r) (h2 : OkV v2 g') (h3 : OkV v3 b) (h4 : OkV v4 r) (h5 : OkV v5 g') (h6 : OkV v6 b) :
    AtMid (Mid3 g L la d1 d2 W tw tu r g' b l p tx ty tr tg tb pa t4 t5 t6 t7 t8 t9 led s) .next { s with heap := h', toks := tk } := by
  refine ⟨rfl, h', tk, m', ma, v1, v2, v3, v4, v5, v6, n, rfl, hm.ov ▸ F, fun p hp => N p ?_, h1, h2, h3, h4, h5, h6⟩
  rcases List.mem_cons.mp hp with rfl | hp
  · exact List.mem_cons_self
  · exact List.mem_cons_of_mem _ (List.mem_cons_of_mem _ (List.mem_cons_of_mem _ (List.mem_cons_of_mem _ (List.mem_cons_of_mem _ hp))))
theorem body1 {M : Model} {A : Around} {E : Value → Shared → Prop} {s : Shared} {env : Env} {Q : Flow → Shared → Prop} {s1 : Stmt} {rest : List Stmt} {g h : Heap} {L la d1 d2 pa : Addr} {m : Str → Option Value} {W : Int} {tw tu : Tok} {r g' b l p : Int} {tx ty tr tg tb t4 t5 t6 t7 t8 t9 : Tok} {led : List (Addr × Obj)} (_F : Fr g L h m)
    (h1 : wpAny M A (execs [s1] env) (AtMid (Mid3 g L la d1 d2 W tw tu r g' b l p tx ty tr tg tb pa t4 t5 t6 t7 t8 t9 led s)) E s) (h2 : ∀ s', Mid3 g L la d1 d2 W tw tu r g' b l p tx ty tr tg tb pa t4 t5 t6 t7 t8 t9 led s s' → wpAny M A (execs rest env) Q E s') : wpAny M A (execs (s1 :: rest) env) Q E s := seq1 _ h1 h2
theorem turn_end2 {g h' : Heap} {L la d1 d2 : Addr} {ol : Obj} {names : List (Str × Value)} {m' : Str → Option Value} {news own own2 tl news' : List (Addr × Obj)} {adr : List Addr} {s₁ : Shared} {tk : Nat} {Q : Flow → Shared → Prop} {Inv : SeenSt → Prop} {q : SeenSt}
    (F : Fr g L h' m') (N : News g L h' news') (ha : Agree m' names) (hz : Inv q) (htl : tl = news ++ (own ++ own2)) (hadr : (seenLed d1 d2 la ol news q ++ own).map (·.1) = adr) (hsub : ∀ p ∈ (d2, q.o2) :: (d1, q.o1) :: (la, ol) :: tl, p ∈ news') :
    TEnd (InvPostN g L (fun m' nx => Agree m' names ∧ ∃ z', nx = seenLed d1 d2 la ol news z' ++ own ∧ Inv z') own2 adr s₁ Q) .next { s₁ with heap := h', toks := tk } := by
  subst htl
  refine turn_end (Led := fun q => seenLed d1 d2 la ol news q ++ own) F N ha q hz hadr (fun p hp => hsub p ?_) (fun p hp => hsub p ?_)
  · simp only [seenLed, List.cons_append, List.mem_cons, List.mem_append] at hp ⊢
    rcases hp with h | h | h | h | h <;> simp [h]
  · simp only [List.mem_cons, List.mem_append]
    simp [hp]
theorem body4 {M : Model} {A : Around} {E : Value → Shared → Prop} {s : Shared} {env : Env} {Q : Flow → Shared → Prop} {s1 s2 s3 s4 : Stmt} {rest : List Stmt} {g h : Heap} {L la d1 d2 : Addr} {m : Str → Option Value} {W : Int} {tw tu : Tok} {r g' b l p : Int} {tx ty : Tok} {led : List (Addr × Obj)} (_F : Fr g L h m)
    (h1 : wpAny M A (execs [s1, s2, s3, s4] env) (AtMid (Mid1 g L la d1 d2 W tw tu r g' b l p tx ty led s)) E s) (h2 : ∀ s', Mid1 g L la d1 d2 W tw tu r g' b l p tx ty led s s' → wpAny M A (execs rest env) Q E s') : wpAny M A (execs (s1 :: s2 :: s3 :: s4 :: rest) env) Q E s := seq4 _ h1 h2
set_option maxRecDepth 100000 in
set_option maxHeartbeats 8000000 in
theorem seen_spec (B : Below A₀ base outer h₀) (F : Fr h₀ L s.heap m) (X : (hd.heap_39 w.params).In h₀) {la : Addr} {i j : Int} {ti tj tw : Tok} {W : Int} (N : News h₀ L s.heap ((la, tupO [.int i ti, .int j tj]) :: news)) (T : Top hd.view_39 looseL mean mg mb h₀)
    (hk : cs.kind = .function) (hdp : dp + 10 < recursionLimit) (hun : un + 100 < cLine)
    (hij : (i = 0 ∧ j = 1) ∨ (i = 1 ∧ j = 2) ∨ (i = 2 ∧ j = 0) ∨ (i = 1 ∧ j = 0) ∨ (i = 2 ∧ j = 1) ∨ (i = 0 ∧ j = 2))
    (hw : 4 ≤ W) (hw' : W ≤ 12) (hz0 : zeroAt W = true) (f : Nat → Int)
    (hf : ∀ x y : Nat, x < 7 → y < 7 → okAt (pt i j W (-3 + x) (-3 + y) 0) (pt i j W (-3 + x) (-3 + y) 1) (pt i j W (-3 + x) (-3 + y) 2) = true ∧ qF 720000 (hsvH (pt i j W (-3 + x) (-3 + y) 0) (pt i j W (-3 + x) (-3 + y) 1) (pt i j W (-3 + x) (-3 + y) 2)) = f (7 * x + y))
    (hret : ∀ x d1 d2 o1 o2 kv1 kv2 h' tk', Fr h₀ L h' m → News h₀ L h' ((x, tupO [.ref d1, .ref d2, .bool true]) :: (d2, o2) :: (d1, o1) :: (la, tupO [.int i ti, .int j tj]) :: news) →
      Obj.IsDictOf (PySem.intKind pg w) o1 kv1 → Obj.IsDictOf (PySem.intKind pg w) o2 kv2 → SeenK kv1 49 f → SeenK kv2 49 f → Q (.ref x) { s with heap := h', toks := tk' }) :
    wpAny (model pg w) (ktrTop dp un gd cn cs L a ccd cl outer) (call (.ref 61) [.ref la, .int W tw]) Q E s := by
  k_with_none
  k_with "call ref" => (k_here; (with_reducible show wpAny _ _ (call (Value.ref 42) [Value.int _ _, Value.int _ _, Value.int _ _]) _ _ _); k_dflt (refine' hsv_spec ?k1 ?k2 ?k3 ?k4 ?k5 ?kK ?kd ?ku ?h1 ?h2 ?h3 ?h4 ?h5 ?h6 ?_; (case k1 => k_asm); (case k2 => k_asm); (case k3 => k_asm); (case k4 => k_asm); (case k5 => k_asm); (case kK => first | exact rfl | assumption); (case kd => ktr_room); (case ku => ktr_units); (case h1 => first | decide | omega); (case h2 => first | decide | omega); (case h3 => first | decide | omega); (case h4 => first | decide | omega); (case h5 => first | decide | omega); (case h6 => first | decide | omega)); intro x9 t1 t2 t3 h9 tk9 F9 N9 l9; (try k_lt l9); (try dsimp only); (try k_fold))
  k_with "call ref" => (k_here; (with_reducible show wpAny _ _ (call (Value.ref 21) [Value.float _ _, Value.float _ _, Value.float _ _]) _ _ _); k_dflt (refine' hls_spec2 ?k1 ?k2 ?k3 ?k4 ?k5 ?kK ?kd ?ku ?h1 ?h2 ?h3 ?h4 ?_; (case k1 => k_asm); (case k2 => k_asm); (case k3 => k_asm); (case k4 => k_asm); (case k5 => k_asm); (case kK => first | exact rfl | assumption); (case kd => ktr_room); (case ku => ktr_units); (case h1 => with_reducible assumption); (case h2 => with_reducible assumption); (case h3 => with_reducible assumption); (case h4 => with_reducible assumption)); intro x9 t1 t2 t3 h9 tk9 F9 N9 l9 n9; (try k_lt l9); (try dsimp only); (try k_fold))
  k_with "call ref" => (k_here; (with_reducible show wpAny _ _ (call (Value.ref 28) [Value.float _ _, Value.float _ _, Value.float _ _]) _ _ _); k_dflt (refine' h2r_spec ?k1 ?k2 ?k3 ?k4 ?k5 ?kK ?kd ?ku ?_; (case k1 => k_asm); (case k2 => k_asm); (case k3 => k_asm); (case k4 => k_asm); (case k5 => k_asm); (case kK => first | exact rfl | assumption); (case kd => ktr_room); (case ku => ktr_units)); intro x9 t1 t2 t3 h9 tk9 F9 N9 l9; (try k_lt l9); (try dsimp only); (try k_fold))
  k_with "call ref" => (k_here; (with_reducible show wpAny _ _ (call (Value.ref 49) [Value.float _ _, Value.float _ _, Value.int _ _]) _ _ _); k_dflt (refine' s2r_spec ?k1 ?k2 ?k3 ?k4 ?k5 ?kK ?kd ?ku ?h1 ?h2 ?h3 ?h4 ?h5 ?h6 ?_; (case k1 => k_asm); (case k2 => k_asm); (case k3 => k_asm); (case k4 => k_asm); (case k5 => k_asm); (case kK => first | exact rfl | assumption); (case kd => ktr_room); (case ku => ktr_units); (case h1 => with_reducible assumption); (case h2 => with_reducible assumption); (case h3 => with_reducible assumption); (case h4 => with_reducible assumption); (case h5 => with_reducible assumption); (case h6 => with_reducible assumption)); intro x9 u9 v9 w9 h9 tk9 hu9 hv9 hw9 F9 N9 l9; (try k_lt l9); (try dsimp only); (try k_fold))
  k_with "setItem ref int" => (k_here; (with_reducible show wpAny _ _ (setItem (Value.ref _) (Value.int _ _) (Value.int _ _)) _ _ _); k_dflt (refine' kda_set (knd := PySem.intKind _ _) ?F ?N ?U ?d (intKind_is _ _ _ _) ?z ?_; (case F => k_asm); (case N => k_asm); (case U => k_updF); (case d => k_asm); (case z => with_reducible assumption)); intro h' o' F' N' hd'; (try dsimp only at N'))
  k_with "eval ListComp" => (k_here; refine Stop.out ?_)
  k_with "CompSrc" => (k_here; refine Stop.out ?_)
  k_with "compareOp Eq ref ref" => (k_here; refine Stop.out ?_)
  k_with "ite" => refine ite_known (by with_reducible assumption) ?_
  k_with "pyIter ref" => (k_here; (with_reducible show wpAny _ _ (pyIter _) (fun it s₂ => LoopAtV _ _ _ _ _ _ _ _ _ it s₂) _ _); refine Stop.out ?_)
  have hun2 : un + 3 + 64 < cLine := by omega
  have hun3 : un + 3 < cLine := by omega
  refine wpAny_call ?_
  k_dflt cell_enter
  k_steps
  refine Stop.in ?_
  rename IsRange _ _ _ _ _ _ _ _ => hR
  rename Fr _ _ _ _ => F1
  rename News _ _ _ _ => N1
  obtain ⟨d1, d2, q0, tu, ha, N2, hi0, la1, l12, ln1, ln2⟩ := pack_seen (w := w) (W := W) (tw := tw) F1 N1 unit_eq rfl rfl rfl rfl rfl rfl (by assumption) (by assumption) (by assumption) (by assumption) f
  k_lt2 la1
  k_lt2 l12
  refine rangeAgree (n := 7) (seenNames la d1 d2 W tw tu) (seenLed d1 d2 la _ news) (fun n q => SeenSt.Inv w f (7 * n) q) q0 (d2 :: d1 :: la :: news.map (·.1)) (fun _ => rfl) rfl hR (by decide) (by decide) F1 ha N2 hi0 ?_ ?_
  · clear F1 N1 hR ha N2 hi0 q0
    intro x tx q u h tk own hx hq hoff F2 N2
    dsimp only [seenNames, seenLed] at F2 N2 hoff
    k_steps
    refine Stop.in ?_
    rename IsRange _ _ _ _ _ _ _ _ => hR
    rename Fr _ _ _ _ => F3
    rename News _ _ _ _ => N3
    refine rangeAgree (n := 7) (("lines", .int (-3 + (x : Int)) tx) :: seenNames la d1 d2 W tw tu) (fun q => seenLed d1 d2 la (tupO [.int i ti, .int j tj]) news q ++ own) (fun n q => SeenSt.Inv w f (7 * x + n) q) q ((d2 :: d1 :: la :: news.map (·.1)) ++ own.map (·.1)) (fun _ => by simp [seenLed]) rfl hR (by decide) (by decide) F3 ?_ N3 hq ?_ ?_
    · exact .cons rfl (.cons rfl (.cons rfl (.cons rfl (.cons rfl (.cons rfl (.cons rfl .nil))))))
    · clear F3 N3 hR hq
      intro y ty q u h tk own2 hy hq hoff2 F2 N2
      have hf1 := hf x y hx hy
      have hT : ∃ tl, (∀ p ∈ tl, p.1 ≠ d1) ∧ (∀ p ∈ tl, p.1 ≠ d2) ∧ tl = news ++ (own ++ own2) := by
        refine ⟨_, ?_, ?_, rfl⟩
        · intro p hp
          rcases List.mem_append.mp hp with h1 | h1
          · exact fun e => absurd (allLt_mem ln1 p h1) (by rw [e]; exact Nat.lt_irrefl _)
          · rcases List.mem_append.mp h1 with h1 | h1
            · exact hoff p h1 _ (by simp)
            · exact hoff2 p h1 _ (by simp)
        · intro p hp
          rcases List.mem_append.mp hp with h1 | h1
          · exact fun e => absurd (allLt_mem ln2 p h1) (by rw [e]; exact Nat.lt_irrefl _)
          · rcases List.mem_append.mp h1 with h1 | h1
            · exact hoff p h1 _ (by simp)
            · exact hoff2 p h1 _ (by simp)
      obtain ⟨tl, ht1, ht2, htl⟩ := hT
      have N3 := flat_led N2
      rw [← htl] at N3
      clear N2
      generalize hX : (-3 + (x : Int)) = lx at F2 hf1
      generalize hY : (-3 + (y : Int)) = ly at F2 hf1
      have hne : i ≠ j := by omega
      have b1 := pt_bound (l := lx) (p := ly) (k := 0) hne hw hw' (by omega) (by omega) (by omega) (by omega)
      have b2 := pt_bound (l := lx) (p := ly) (k := 1) hne hw hw' (by omega) (by omega) (by omega) (by omega)
      have b3 := pt_bound (l := lx) (p := ly) (k := 2) hne hw hw' (by omega) (by omega) (by omega) (by omega)
      generalize hpr : pt i j W lx ly 0 = r at hf1 b1
      generalize hpg : pt i j W lx ly 1 = g at hf1 b2
      generalize hpb : pt i j W lx ly 2 = b at hf1 b3
      refine gen_post ?_
      intro QT hQT
      refine body4 F2 (la := la) (d1 := d1) (d2 := d2) (W := W) (tw := tw) (tu := tu) (r := r) (g' := g) (b := b) (l := lx) (p := ly) (tx := tx) (ty := ty) (led := (d2, q.o2) :: (d1, q.o1) :: (la, tupO [.int i ti, .int j tj]) :: tl) ?_ ?_
      · rcases hij with ⟨rfl, rfl⟩ | ⟨rfl, rfl⟩ | ⟨rfl, rfl⟩ | ⟨rfl, rfl⟩ | ⟨rfl, rfl⟩ | ⟨rfl, rfl⟩
        all_goals k_steps
        all_goals (rename Fr _ _ _ _ => F4; rename News _ _ _ _ => N4)
        all_goals exact mid1_in F4 N4 (.cons rfl (.cons rfl (.cons rfl (.cons rfl (.cons rfl (.cons rfl (.cons rfl (.cons rfl (.cons rfl (.cons rfl (.cons rfl (.cons rfl .nil)))))))))))) (by rw [← hpr]; simp [pt]) (by rw [← hpg]; simp [pt]) (by rw [← hpb]; simp [pt]) (allLt3 (by assumption))
      · rintro s' ⟨h', tk', u, pa, tr, tg, tb, t1, t2, t3, n, rfl, F4, N4, hlt⟩
        obtain ⟨ok1, hfv⟩ := hf1
        have ok := okAt_facts ok1
        have k1 := ok.k1
        have k2 := ok.k2
        have k3 := ok.k3
        have k4 := ok.k4
        unfold scl at k1 k2 k3 k4
        have k5 := Flt.not_nan_of_finite ok.k7
        have k6 := Flt.not_inf_of_finite ok.k7
        have k7 := Flt.not_nan_of_finite ok.k5
        have k8 := Flt.not_inf_of_finite ok.k5
        have k9 := ok.k5
        have k10 := ok.k6
        have k11 := ok.k8
        have k12 := ok.k11
        have k13 := ok.k12
        obtain ⟨hd1, hd2, hs1, hs2⟩ := hq
        have hl1 := hs1.line (by omega)
        have hl2 := hs2.line (by omega)
        k_lt hlt
        refine body4b F4 (w := w) (la := la) (d1 := d1) (d2 := d2) (pa := pa) (ol := tupO [.int i ti, .int j tj]) (W := W) (tw := tw) (tu := tu) (r := r) (g' := g) (b := b) (l := lx) (p := ly) (tx := tx) (ty := ty) (tr := tr) (tg := tg) (tb := tb) (t1 := t1) (t2 := t2) (t3 := t3) (n := n) (k := 7 * x + y + 1) (f := f) (tl := tl) ?_ ?_
        · k_steps
          rename Fr _ _ _ _ => F5
          rename News _ _ _ _ => N5
          exact mid2_in F5 N5 (.cons rfl (.cons rfl (.cons rfl (.cons rfl (.cons rfl (.cons rfl (.cons rfl (.cons rfl (.cons rfl (.cons rfl (.cons rfl (.cons rfl (.cons rfl (.cons rfl (.cons rfl (.cons rfl (.cons rfl (.cons rfl .nil)))))))))))))))))) (by assumption) (by assumption) (by assumption) hs1 hs2 (by omega) hfv
        · rintro s' ⟨h', tk', u, q, t4, t5, t6, t7, t8, t9, rfl, F5, N5, hq, ht8⟩
          have hmx := mxI_ge r g b
          have hm1 : 1 ≤ mxI r g b := by omega
          have hm2 : mxI r g b ≤ 16 := by omega
          refine body1 F5 (la := la) (d1 := d1) (d2 := d2) (pa := pa) (W := W) (tw := tw) (tu := tu) (r := r) (g' := g) (b := b) (l := lx) (p := ly) (tx := tx) (ty := ty) (tr := tr) (tg := tg) (tb := tb) (t4 := t4) (t5 := t5) (t6 := t6) (t7 := t7) (t8 := t8) (t9 := t9) (led := (pa, { cls := .type "list", data := .seq #[.int r t1, .int g t2, .int b t3] n }) :: (d2, q.o2) :: (d1, q.o1) :: (la, tupO [.int i ti, .int j tj]) :: tl) ?_ ?_
          · k_steps
            refine Stop.in ?_
            k_dflt (refine ListComp_T (by k_asm) (by rfl) (by decide) (by rfl) (by decide) (by rfl) ?_)
            k_steps
            rename Fr _ _ _ _ => F6
            rename News _ _ _ _ => N6
            rename Num.Is _ _ => hu3
            rename Num.Is (_ : Num × Num × Num).2.1 _ => hu2
            rename Num.Is (_ : Num × Num × Num).1 _ => hu1
            refine TupSrc.of rfl F6 N6 (List.mem_cons_self ..) (by first | size_fits | exact Nat.le_of_ble_eq_true rfl) ?_
            intro g9
            refine comp_vals (fun v y => y = v) ⟨_, List.mem_cons_self .., rfl, _, rfl⟩ ?_ ?_
            · intro v ys I oI C oC D m₂ h tk E' hv hC hx F N off ne
              k_steps
              exact ElEnd.intro (by assumption) N [] (fun p hp => hp) trivial ⟨rfl, rfl⟩
            · intro ys hl hR
              obtain rfl := vals_eq hl hR
              intro D1 h tk F N o1
              k_steps
              refine Stop.in ?_
              k_dflt (refine ListComp_T (by k_asm) (by rfl) (by decide) (by rfl) (by decide) (by rfl) ?_)
              k_steps
              rename Fr _ _ _ _ => F7
              rename News _ _ _ _ => N7
              refine TupSrc.of rfl F7 N7 (List.mem_cons_self ..) (by first | size_fits | exact Nat.le_of_ble_eq_true rfl) ?_
              intro g8
              refine comp_vals (fun v y => ∃ x t t', v = .float x t ∧ y = .float (Float64.mul (Float64.ofInt 16) x) t') ⟨_, List.mem_cons_self .., rfl, _, rfl⟩ ?_ ?_
              · intro v ys I oI C oC D m₂ h tk E' hv hC hx F N off ne
                have hfl : ∃ x t, v = .float x t := by
                  rcases List.mem_cons.mp hv with rfl | hv
                  · exact ⟨_, _, rfl⟩
                  rcases List.mem_cons.mp hv with rfl | hv
                  · exact ⟨_, _, rfl⟩
                  rcases List.mem_cons.mp hv with rfl | hv
                  · exact ⟨_, _, rfl⟩
                  cases hv
                obtain ⟨x, t, rfl⟩ := hfl
                k_steps
                exact ElEnd.intro (by assumption) (by assumption) [] (fun p hp => hp) trivial ⟨rfl, _, _, _, rfl, rfl⟩
              · intro ys hl hR
                obtain ⟨x1, x2, x3, rfl, ⟨_, _, s1, e1, rfl⟩, ⟨_, _, s2, e2, rfl⟩, ⟨_, _, s3, e3, rfl⟩⟩ := vals3 hl hR
                cases e1; cases e2; cases e3
                intro D2 h tk F N o2
                k_steps
                rename Fr _ _ _ _ => F8
                rename News _ _ _ _ => N8
                exact mid3_in F8 N8 (.cons rfl (.cons rfl (.cons rfl (.cons rfl (.cons rfl (.cons rfl (.cons rfl (.cons rfl (.cons rfl (.cons rfl (.cons rfl (.cons rfl (.cons rfl (.cons rfl (.cons rfl (.cons rfl (.cons rfl (.cons rfl (.cons rfl .nil))))))))))))))))))) (.of ok.o1 hu1) (.of ok.o2 hu2) (.of ok.o3 hu3) (.of ok.o4 isF) (.of ok.o5 isF) (.of ok.o6 isF)
          · rintro s' ⟨h', tk', u, ma, v1, v2, v3, v4, v5, v6, nm, rfl, F6, N6, o1, o2, o3, o4, o5, o6⟩
            k_steps
            refine Stop.in ?_
            k_dflt (refine LCg.ListComp_U (F₀ := by k_asm) (by rfl) (by decide) (by rfl) (by decide) (by rfl) ?_)
            k_steps
            refine Stop.in ?_
            rename Fr _ _ _ _ => F7
            rename News _ _ _ _ => N7
            refine LCg.CompSrc.ledger rfl F7 N7 (List.mem_cons_self ..) (by first | size_fits | exact Nat.le_of_ble_eq_true rfl) ?_
            intro g8
            refine comp_vals (fun v y => ∃ k : Num, k.Is v ∧ ∃ t, y = .int (qN 2000 k) t) (.inr ⟨_, List.mem_cons_self .., rfl, _, rfl⟩) ?_ ?_
            · intro v ys I oI C oC D m₂ h tk E' hv hC hx F N off ne
              have hov : ∃ x, OkV v x := by
                rcases List.mem_cons.mp hv with rfl | hv
                · exact ⟨_, o1⟩
                rcases List.mem_cons.mp hv with rfl | hv
                · exact ⟨_, o2⟩
                rcases List.mem_cons.mp hv with rfl | hv
                · exact ⟨_, o3⟩
                rcases List.mem_cons.mp hv with rfl | hv
                · exact ⟨_, o4⟩
                rcases List.mem_cons.mp hv with rfl | hv
                · exact ⟨_, o5⟩
                rcases List.mem_cons.mp hv with rfl | hv
                · exact ⟨_, o6⟩
                cases hv
              obtain ⟨_, k, hk, _, hfin⟩ := hov
              cases k with
              | I n =>
                obtain ⟨t, rfl⟩ := hk
                simp only [finN, Bool.and_eq_true, decide_eq_true_eq] at hfin
                k_steps
                exact ElEnd.intro (by assumption) (by assumption) [] (fun p hp => hp) trivial ⟨rfl, .I n, isI, _, rfl⟩
              | F x =>
                obtain ⟨t, rfl⟩ := hk
                have hn1 := Flt.not_nan_of_finite hfin
                have hn2 := Flt.not_inf_of_finite hfin
                k_steps
                exact ElEnd.intro (by assumption) (by assumption) [] (fun p hp => hp) trivial ⟨rfl, .F x, isF, _, rfl⟩
            · intro ys hl hR
              obtain ⟨x1, x2, x3, x4, x5, x6, rfl, r1, r2, r3, r4, r5, r6⟩ := vals6 hl hR
              obtain ⟨s1, rfl⟩ := o1.at r1
              obtain ⟨s2, rfl⟩ := o2.at r2
              obtain ⟨s3, rfl⟩ := o3.at r3
              obtain ⟨s4, rfl⟩ := o4.at r4
              obtain ⟨s5, rfl⟩ := o5.at r5
              obtain ⟨s6, rfl⟩ := o6.at r6
              intro D2 h tk F N ho2
              k_steps
              refine Stop.in ?_
              k_dflt (refine LCg.ListComp_U (F₀ := by k_asm) (by rfl) (by decide) (by rfl) (by decide) (by rfl) ?_)
              k_steps
              refine Stop.in ?_
              rename Fr _ _ _ _ => F8
              rename News _ _ _ _ => N8
              refine LCg.CompSrc.ledger rfl F8 N8 (List.mem_cons_self ..) (by first | size_fits | exact Nat.le_of_ble_eq_true rfl) ?_
              intro g7
              refine comp_vals (fun v y => ∃ n t t', v = .int n t ∧ y = .int (1000 * n) t') (.inr ⟨_, List.mem_cons_self .., rfl, _, rfl⟩) ?_ ?_
              · intro v ys I oI C oC D m₂ h tk E' hv hC hx F N off ne
                have hov : ∃ n t, v = .int n t ∧ 1 ≤ n ∧ n ≤ 16 := by
                  rcases List.mem_cons.mp hv with rfl | hv
                  · exact ⟨_, _, rfl, b1⟩
                  rcases List.mem_cons.mp hv with rfl | hv
                  · exact ⟨_, _, rfl, b2⟩
                  rcases List.mem_cons.mp hv with rfl | hv
                  · exact ⟨_, _, rfl, b3⟩
                  rcases List.mem_cons.mp hv with rfl | hv
                  · exact ⟨_, _, rfl, b1⟩
                  rcases List.mem_cons.mp hv with rfl | hv
                  · exact ⟨_, _, rfl, b2⟩
                  rcases List.mem_cons.mp hv with rfl | hv
                  · exact ⟨_, _, rfl, b3⟩
                  cases hv
                obtain ⟨n, t, rfl, hn1, hn2⟩ := hov
                k_steps
                exact ElEnd.intro (by assumption) (by assumption) [] (fun p hp => hp) trivial ⟨rfl, n, _, _, rfl, rfl⟩
              · intro ys hl hR
                obtain ⟨x1, x2, x3, x4, x5, x6, rfl, ⟨_, _, p1, e1, rfl⟩, ⟨_, _, p2, e2, rfl⟩, ⟨_, _, p3, e3, rfl⟩, ⟨_, _, p4, e4, rfl⟩, ⟨_, _, p5, e5, rfl⟩, ⟨_, _, p6, e6, rfl⟩⟩ := vals6 hl hR
                cases e1; cases e2; cases e3; cases e4; cases e5; cases e6
                intro D3 h tk F N ho3
                k_steps
                refine Stop.in ?_
                refine eq_same (isList_lst N (List.mem_cons_of_mem _ (List.mem_cons_of_mem _ List.mem_cons_self))) (isList_lst N List.mem_cons_self) (.cons _ _ (.cons _ _ (.cons _ _ (.cons _ _ (.cons _ _ (.cons _ _ .nil)))))) (.cons _ _ (.cons _ _ (.cons _ _ (.cons _ _ (.cons _ _ (.cons _ _ .nil)))))) hun2 ?_
                k_steps
                · rename lx = 0 => e1
                  rename ly = 0 => e2
                  subst e1 e2
                  have hr : r = W := by rw [← hpr]; simp [pt]
                  have hg : g = W := by rw [← hpg]; simp [pt]
                  have hb : b = W := by rw [← hpb]; simp [pt]
                  subst hr
                  cases hg
                  cases hb
                  obtain ⟨z1, z2, z3, z4, z5⟩ := zeroAt_facts hz0
                  rename Fr _ _ _ _ => F9
                  rename News _ _ _ _ => N9
                  rename Frag.In _ _ => X9
                  refine Stop.in ?_
                  refine eq_five (isTup_of N9 (List.mem_cons_of_mem _ List.mem_cons_self)) (isTup_of N9 List.mem_cons_self) hun3 (eqAt_fi z1) (eqAt_fi z2) (eqAt_ii z3) (eqAt_ff ?_ ?_ z4) (eqAt_fi z5) ?_
                  · simp only [Bool.or_eq_false_iff, beq_eq_false_iff_ne, ne_eq]
                    exact ⟨ht8, Nat.succ_ne_zero _⟩
                  · exact noneBooked (X9.keeps F9.keep) (by k_is)
                  · k_steps
                    rename Fr _ _ _ _ => F10
                    rename News _ _ _ _ => N10
                    exact hQT _ _ (turn_end2 F10 N10 (.cons rfl (.cons rfl (.cons rfl (.cons rfl (.cons rfl (.cons rfl (.cons rfl .nil))))))) hq htl (by simp [seenLed]) (fun p hp => by repeat (first | exact hp | refine List.mem_cons_of_mem _ ?_)))
                all_goals (rename Fr _ _ _ _ => F10; rename News _ _ _ _ => N10)
                all_goals exact hQT _ _ (turn_end2 F10 N10 (.cons rfl (.cons rfl (.cons rfl (.cons rfl (.cons rfl (.cons rfl (.cons rfl .nil))))))) hq htl (by simp [seenLed]) (fun p hp => by repeat (first | exact hp | refine List.mem_cons_of_mem _ ?_)))
    · clear F3 N3 hR hq
      intro q u h tk hq F2 N2
      dsimp only
      refine wpAny_execs_nil ?_
      refine turn_end F2 N2 ?_ q hq rfl ?_ ?_
      · exact .cons rfl (.cons rfl (.cons rfl (.cons rfl (.cons rfl (.cons rfl .nil)))))
      · exact fun p hp => List.mem_append_left _ hp
      · exact fun p hp => List.mem_append_right _ hp
  · clear F1 N1 hR ha N2 hi0 q0
    intro q u h tk hq F2 N2
    dsimp only [seenNames, seenLed] at F2 N2
    k_steps
    rename Fr h₀ L _ _ => kF
    rename News h₀ L _ _ => kN
    exact hret _ _ _ _ _ _ _ _ _ kF kN hq.1 hq.2.1 hq.2.2.1 hq.2.2.2
end
end Mine
end
local macro_rules | `(tactic| k_mem) => `(tactic| with_reducible_and_instances assumption)
section
namespace Mine
section
variable {w : World} {mean : ExcName → Option Value} {mg mb : Str → Option Value} {dp un : Nat} {gd : Option (List Code)} {cn : Str} {cs : Scope} {a : Addr} {ccd : Value} {cl : List (Str × Addr)} {outer : List Env} {A₀ : Around} {base h₀ : Heap} {L : Addr} {m : Str → Option Value} {news : List (Addr × Obj)} {s : Shared} {Q E : Value → Shared → Prop}

set_option maxRecDepth 100000 in
set_option maxHeartbeats 8000000 in
theorem turning_spec (B : Below A₀ base outer h₀) (F : Fr h₀ L s.heap m) (X : (hd.heap_39 w.params).In h₀) (N : News h₀ L s.heap news) (T : Top hd.view_39 looseL mean mg mb h₀)
    (hk : cs.kind = .function) (hdp : dp + 10 < recursionLimit) (hun : un + 100 < cLine)
    {pts : List PtV} {ca da : Addr} {kk : Nat} {sp : PtV} {od : Obj} {kv : List (Int × Value)} {f : Nat → Int}
    (hc : (ca, ptsO pts kk) ∈ news) (hp : ∀ p ∈ pts, (p.a, p.obj) ∈ news ∧ p.ok) (hsp : (sp.a, sp.obj) ∈ news) (hso : sp.ok) (hda : (da, od) ∈ news) (hd : od.IsDictOf (PySem.intKind pg w) kv) (hsk : SeenK kv 49 f)
    (hl3 : 3 ≤ pts.length) (hl5 : pts.length ≤ 5)
    (hret : ∀ t h' tk', Fr h₀ L h' m → News h₀ L h' news → Q (.int (walkSum (tT f sp) pts pts.length) t) { s with heap := h', toks := tk' }) :
    wpAny (model pg w) (ktrTop dp un gd cn cs L a ccd cl outer) (call (.ref 66) [.ref ca, .ref sp.a, .ref da]) Q E s := by
  k_with_none
  k_with "pyIter ref" => (k_here; (with_reducible show wpAny _ _ (pyIter _) (fun it s₂ => LoopAtV _ _ _ _ _ _ _ _ _ it s₂) _ _); refine Stop.out ?_)
  k_with "eval ListComp" => (k_here; refine Stop.out ?_)
  k_with "exec Assign cons ListComp" => (k_here; refine Stop.out ?_)
  k_with "CompSrc" => (k_here; refine Stop.out ?_)
  k_with "subscriptTail" => (k_here; refine Stop.out ?_)
  k_with "compareOp NotEq ref ref" => (k_here; refine Stop.out ?_)
  k_with "subscriptTail" => (k_here; (with_reducible show wpAny _ _ (subscriptTail _ _ (Value.ref (PtV.a _)) (Value.int _ _)) _ _ _); k_dflt (first | refine pt_x (by k_asm) (by k_mem) (by decide) ?_ | refine pt_y (by k_asm) (by k_mem) (by decide) ?_))
  refine wpAny_call ?_
  k_dflt (refine' code_defC ?k1 ?k2 ?k3 ?k4 ?k5 ?kA ?kF ?kK ?k6 ?k7 ?k8 ?k9 ?kB ?kD ?_ ?c2 ?c3 ?c4; (case kA => exact rfl); (case kF => exact rfl); (case kK => assumption); (case k1 => k_asm); (case k2 => k_asm); (case k3 => k_asm); (case k4 => k_asm); (case k5 => k_asm); (case k6 => k_is); (case k7 => k_is); (case k8 => ktr_room); (case k9 => exact BindsTo.of_eq rfl); (case kB => exact rfl); (case kD => decide +kernel); (case c2 => exact rfl); (case c3 => exact rfl); (case c4 => exact rfl); k_whole; intro g' L' h' tk' cells' FG' F' N' Y' B' X' T' l1; k_cells Y'; (try simp only [List.cons_append, List.nil_append] at N'); (try dsimp only); (try k_fold))
  k_steps
  refine Stop.in ?_
  k_dflt (refine LCg.Assign_ListComp_U (F₀ := by k_asm) (by rfl) (by with_unfolding_all rfl) (by with_unfolding_all rfl) (by decide) (by rfl) (by decide) (by rfl) (by rfl) (by rfl) ?_)
  k_steps
  refine Stop.in ?_
  rename Fr _ _ _ _ => F7
  rename News _ _ _ _ => N7
  refine LCg.CompSrc.ledger rfl F7 N7 (List.mem_cons_of_mem _ (List.mem_cons_of_mem _ hc)) (by rw [sizeLine_eq]; simp; omega) ?_
  intro g8
  refine comp_inv (fun i ys nw => nw = [] ∧ IntsAre ys ((pts.take i).map (hueAt f sp))) (fun nw => .inr ⟨_, List.mem_append_right _ (List.mem_cons_of_mem _ (List.mem_cons_of_mem _ hc)), rfl, _, rfl⟩) ⟨rfl, .nil⟩ ?_ ?_
  · rintro i v ys nw I oI C oC D m₂ h tk E' hi hv ⟨rfl, hys⟩ hC hx F N off ne
    obtain ⟨p, hpi, rfl⟩ : ∃ p, pts[i]? = some p ∧ v = .ref p.a := by
      simp only [List.getElem?_toArray, List.getElem?_map, Option.map_eq_some_iff] at hv
      obtain ⟨p, h1, rfl⟩ := hv
      exact ⟨p, h1, rfl⟩
    obtain ⟨hpm, hpo⟩ := hp p (List.mem_of_getElem? hpi)
    obtain ⟨q1, q2, q3, q4⟩ := hpo
    obtain ⟨q5, q6, q7, q8⟩ := hso
    simp only [List.nil_append] at N off
    k_steps
    refine Stop.in ?_
    refine seen_item (t := (7 * (p.x - sp.x) + p.y - sp.y + 24).toNat) (by k_asm) (by k_mem) hd hsk (by omega) (by omega) ?_
    intro tk9
    k_steps
    exact ElEnd.intro (by k_asm) (by k_asm) [] (fun p hp => hp) trivial ⟨rfl, by rw [List.take_add_one, hpi]; simpa [hueAt] using IntsAre.append hys (.cons _ _ .nil)⟩
  · rintro ys nw ⟨rfl, hys⟩
    simp only [List.size_toArray, List.length_map, List.take_length] at hys
    k_steps
    rename Fr _ _ _ _ => F9
    rename News _ _ _ _ => N9
    refine Calls.call_len_list (pts_list N9 (List.mem_cons_of_mem _ (List.mem_cons_of_mem _ (List.mem_cons_of_mem _ hc)))) (by simp; omega) ?_
    k_steps
    refine Stop.in ?_
    rename IsRange _ _ _ _ _ _ _ _ => hR
    rename IntsAre _ _ => hI
    rename Fr _ _ _ _ => F10
    rename News _ _ _ _ => N10
    refine rangeSt (n := pts.length) (fun z : Int × Tok => [("corners", .ref ca), ("hues", .ref _), ("turning", .int z.1 z.2)]) (fun _ => _) (fun i z => z.1 = walkSum (tT f sp) pts i) (0, _) _ (fun _ => rfl) rfl hR ?_ ?_ F10 (.cons rfl (.cons rfl (.cons rfl .nil))) N10 rfl ?_ ?_
    · rw [List.length_map]
      obtain h | h | h : pts.length = 3 ∨ pts.length = 4 ∨ pts.length = 5 := by omega
      all_goals rw [h]; decide
    · rw [List.length_map, rangeSize_nat]; simp
    · intro i t z u h tk own hi hz off F1 N1
      simp only [List.cons_append] at N1
      have hc1 : (ca, ptsO pts kk) ∈ news ++ own := List.mem_append_left _ hc
      have hsp1 : (sp.a, sp.obj) ∈ news ++ own := List.mem_append_left _ hsp
      have hda1 : (da, od) ∈ news ++ own := List.mem_append_left _ hda
      obtain ⟨qa, hqa⟩ : ∃ a, pts[prevI pts.length i]? = some a := ⟨_, List.getElem?_eq_getElem (prevI_lt hi)⟩
      obtain ⟨qb, hqb⟩ : ∃ b, pts[i]? = some b := ⟨_, List.getElem?_eq_getElem hi⟩
      have hpa : (qa.a, qa.obj) ∈ news ++ own := List.mem_append_left _ (hp qa (List.mem_of_getElem? hqa)).1
      have hpb : (qb.a, qb.obj) ∈ news ++ own := List.mem_append_left _ (hp qb (List.mem_of_getElem? hqb)).1
      have hle : (List.map (hueAt f sp) pts).length ≤ 1000 := by simp; omega
      have e1 : (List.map (hueAt f sp) pts).getD (0 + (i : Int)).toNat 0 = hueAt f sp qb := by simp [hqb]
      k_steps
      refine Stop.in ?_
      refine ints_item (ns := pts.map (hueAt f sp)) (v := hueAt f sp qa) (j := prevI pts.length i) (by k_asm) (by k_mem) hI hle (by rw [List.length_map]; exact prevI_idx hi) (by simp [hqa]) ?_
      intro tk2
      rw [e1]
      k_steps
      · refine Stop.in ?_
        rename (_ - 180000 : Int) ≠ _ => c1
        refine pts_item (p := qa) (by k_asm) (by k_mem) hl5 (prevI_idx hi) hqa ?_
        k_steps
        refine Stop.in ?_
        refine pt_ne (by k_asm) (by k_mem) (by k_mem) (by ktr_units) ?_
        k_steps
        · rename (_ && _) = true => c2
          rename Fr _ _ _ _ => F9
          rename News _ _ _ _ => N9
          refine turn_endS (z.1, z.2) F9 N9 (.cons rfl (.cons rfl (.cons rfl .nil))) ?_ rfl (fun p hp => List.mem_append_left own hp) (fun p hp => List.mem_append_right ((_, _) :: (_, _) :: (_, _) :: news) hp)
          exact walk_step hz hqa hqb (tT_1 c2).symm
        · rename (_ && _) = false => c2
          refine Stop.in ?_
          refine pts_item (p := qb) (by k_asm) (by k_mem) hl5 own_idx hqb ?_
          k_steps
          refine Stop.in ?_
          refine pt_ne (by k_asm) (by k_mem) (by k_mem) (by ktr_units) ?_
          k_steps
          · rename (_ && _) = true => c3
            rename Fr _ _ _ _ => F9
            rename News _ _ _ _ => N9
            refine turn_endS (z.1, z.2) F9 N9 (.cons rfl (.cons rfl (.cons rfl .nil))) ?_ rfl (fun p hp => List.mem_append_left own hp) (fun p hp => List.mem_append_right ((_, _) :: (_, _) :: (_, _) :: news) hp)
            exact walk_step hz hqa hqb (tT_2 c3).symm
          · rename (_ && _) = false => c3
            rename Fr _ _ _ _ => F9
            rename News _ _ _ _ => N9
            refine turn_endS (_, _) F9 N9 (.cons rfl (.cons rfl (.cons rfl .nil))) ?_ rfl (fun p hp => List.mem_append_left own hp) (fun p hp => List.mem_append_right ((_, _) :: (_, _) :: (_, _) :: news) hp)
            exact walk_step hz hqa hqb (tT_3 c1 c2 c3).symm
      · rename (_ - 180000 : Int) = _ => c1
        rename Fr _ _ _ _ => F9
        rename News _ _ _ _ => N9
        refine turn_endS (z.1, z.2) F9 N9 (.cons rfl (.cons rfl (.cons rfl .nil))) ?_ rfl (fun p hp => List.mem_append_left own hp) (fun p hp => List.mem_append_right ((_, _) :: (_, _) :: (_, _) :: news) hp)
        exact walk_step hz hqa hqb (tT_0 c1).symm
    · intro z u h tk hz F1 N1
      k_steps
      rename Fr h₀ L _ _ => kF
      rename News h₀ L _ _ => kN
      rw [hz]
      exact hret _ _ _ kF (fun p hp => kN p (List.mem_cons_of_mem _ (List.mem_cons_of_mem _ (List.mem_cons_of_mem _ hp))))
end
end Mine
end
local macro_rules | `(tactic| mul_fits) => `(tactic| exact PySem.IntMulOk.of_left (PySem.intBits_le_64 (by omega) (by omega)))
section
namespace Mine
theorem ite_both {c : Prop} [Decidable c] {P Q : Prop} (h : c → P) (h' : ¬c → Q) : if c then P else Q := by
  split
  · exact h (by assumption)
  · exact h' (by assumption)
section
variable {w : World} {mean : ExcName → Option Value} {mg mb : Str → Option Value} {dp un : Nat} {gd : Option (List Code)} {cn : Str} {cs : Scope} {a : Addr} {ccd : Value} {cl : List (Str × Addr)} {outer : List Env} {A₀ : Around} {base h₀ : Heap} {L : Addr} {m : Str → Option Value} {news : List (Addr × Obj)} {s : Shared} {Q E : Value → Shared → Prop}

set_option maxRecDepth 100000 in
set_option maxHeartbeats 8000000 in
theorem rounds_spec (B : Below A₀ base outer h₀) (F : Fr h₀ L s.heap m) (X : (hd.heap_39 w.params).In h₀) (N : News h₀ L s.heap news) (T : Top hd.view_39 looseL mean mg mb h₀)
    (hk : cs.kind = .function) (hdp : dp + 10 < recursionLimit) (hun : un + 100 < cLine)
    {pts : List PtV} {ca : Addr} {kk : Nat} {sp : PtV}
    (hc : (ca, ptsO pts kk) ∈ news) (hp : ∀ p ∈ pts, (p.a, p.obj) ∈ news ∧ p.ok) (hsp : (sp.a, sp.obj) ∈ news) (hso : sp.ok)
    (hl3 : 3 ≤ pts.length) (hl5 : pts.length ≤ 5)
    (hret : ∀ t h' tk', (∀ i, i < pts.length → offStep sp pts i = true) → Fr h₀ L h' m → News h₀ L h' news → Q (.int (walkSum (rR sp) pts pts.length) t) { s with heap := h', toks := tk' })
    (hnone : ∀ h' tk', Fr h₀ L h' m → News h₀ L h' news → Q .none { s with heap := h', toks := tk' }) :
    wpAny (model pg w) (ktrTop dp un gd cn cs L a ccd cl outer) (call (.ref 73) [.ref ca, .ref sp.a]) Q E s := by
  k_with_none
  k_with "pyIter ref" => (k_here; (with_reducible show wpAny _ _ (pyIter _) (fun it s₂ => LoopAtV _ _ _ _ _ _ _ _ _ it s₂) _ _); refine Stop.out ?_)
  k_with "eval ListComp" => (k_here; refine Stop.out ?_)
  k_with "exec Assign cons ListComp" => (k_here; refine Stop.out ?_)
  k_with "CompSrc" => (k_here; refine Stop.out ?_)
  k_with "subscriptTail" => (k_here; refine Stop.out ?_)
  k_with "compareOp NotEq ref ref" => (k_here; refine Stop.out ?_)
  k_with "subscriptTail" => (k_here; (with_reducible show wpAny _ _ (subscriptTail _ _ (Value.ref (PtV.a _)) (Value.int _ _)) _ _ _); k_dflt (first | refine pt_x (by k_asm) (by k_mem) (by decide) ?_ | refine pt_y (by k_asm) (by k_mem) (by decide) ?_))
  k_with "ite" => (k_here; first | with_reducible refine ite_tt ?_ | with_reducible refine ite_ff ?_ | with_reducible refine split_not ?_ | (refine ite_both ?_ ?_ <;> intro _))
  k_with "execs cons" => (k_here; dsimp only)
  k_with "execs nil" => (k_here; dsimp only)
  refine wpAny_call ?_
  k_dflt cell_enter
  k_steps
  rename Fr _ _ _ _ => F9
  rename News _ _ _ _ => N9
  refine Calls.call_len_list (pts_list N9 hc) (by simp; omega) ?_
  k_steps
  refine Stop.in ?_
  rename IsRange _ _ _ _ _ _ _ _ => hR
  rename Fr _ _ _ _ => F10
  rename News _ _ _ _ => N10
  refine rangeSt (n := pts.length) (fun z : Int × Tok => [("corners", .ref ca), ("spot", .ref sp.a), ("rounds", .int z.1 z.2)]) (fun _ => _) (fun i z => z.1 = walkSum (rR sp) pts i ∧ ∀ j, j < i → offStep sp pts j = true) (0, _) _ (fun _ => rfl) rfl hR ?_ ?_ F10 (.cons rfl (.cons rfl (.cons rfl .nil))) N10 ⟨rfl, fun j hj => absurd hj (Nat.not_lt_zero j)⟩ ?_ ?_
  · rw [List.size_toArray, List.length_map]
    obtain h | h | h : pts.length = 3 ∨ pts.length = 4 ∨ pts.length = 5 := by omega
    all_goals rw [h]; decide
  · rw [List.size_toArray, List.length_map, rangeSize_nat]; simp
  · intro i t z u h tk own hi hz off F1 N1
    have hc1 : (ca, ptsO pts kk) ∈ news ++ own := List.mem_append_left _ hc
    have hsp1 : (sp.a, sp.obj) ∈ news ++ own := List.mem_append_left _ hsp
    obtain ⟨qa, hqa⟩ : ∃ a, pts[prevI pts.length i]? = some a := ⟨_, List.getElem?_eq_getElem (prevI_lt hi)⟩
    obtain ⟨qb, hqb⟩ : ∃ b, pts[i]? = some b := ⟨_, List.getElem?_eq_getElem hi⟩
    have hpa : (qa.a, qa.obj) ∈ news ++ own := List.mem_append_left _ (hp qa (List.mem_of_getElem? hqa)).1
    have hpb : (qb.a, qb.obj) ∈ news ++ own := List.mem_append_left _ (hp qb (List.mem_of_getElem? hqb)).1
    obtain ⟨a1, a2, a3, a4⟩ := (hp qa (List.mem_of_getElem? hqa)).2
    obtain ⟨b1, b2, b3, b4⟩ := (hp qb (List.mem_of_getElem? hqb)).2
    obtain ⟨s1, s2, s3, s4⟩ := hso
    refine gen_post ?_
    intro QT hQT
    k_steps
    refine Stop.in ?_
    refine pts_item (p := qa) (by k_asm) (by k_mem) hl5 (prevI_idx hi) hqa ?_
    k_steps
    refine Stop.in ?_
    refine pts_item (p := qb) (by k_asm) (by k_mem) hl5 own_idx hqb ?_
    k_steps
    · refine hQT _ _ ?_
      show qk (Flow.ret Value.none) _
      k_steps
      rename Fr h₀ L _ _ => kF
      rename News h₀ L _ _ => kN
      exact hnone _ _ kF (fun p hp => kN p (List.mem_append_left _ hp))
    all_goals (rename Fr _ _ _ _ => F9; rename News _ _ _ _ => N9; refine hQT _ _ (turn_endS (_, _) F9 N9 (.cons rfl (.cons rfl (.cons rfl .nil))) ?_ rfl (fun p hp => List.mem_append_left own hp) (fun p hp => List.mem_append_right news hp)))
    all_goals refine ⟨walk_step hz.1 hqa hqb ?_, off_step hz.2 hqa hqb ?_⟩
    all_goals (first | unfold rR | unfold onWay)
    all_goals unfold sideOf
    all_goals (simp only [decide_eq_true_eq, beq_iff_eq] at *)
    all_goals generalize (qb.x - qa.x) * (sp.y - qa.y) - (sp.x - qa.x) * (qb.y - qa.y) = σ at *
    all_goals generalize (qa.x - sp.x) * (qb.x - sp.x) + (qa.y - sp.y) * (qb.y - sp.y) = τ at *
    all_goals first | (split <;> split <;> omega) | (simp only [Bool.and_eq_false_iff, decide_eq_false_iff_not]; omega)
  · intro z u h tk hz F1 N1
    k_steps
    rename Fr h₀ L _ _ => kF
    rename News h₀ L _ _ => kN
    rw [hz.1]
    exact hret _ _ _ hz.2 kF kN
end
end Mine
end
section
namespace Mine
section
variable {w : World} {mean : ExcName → Option Value} {mg mb : Str → Option Value} {dp un : Nat} {gd : Option (List Code)} {cn : Str} {cs : Scope} {a : Addr} {ccd : Value} {cl : List (Str × Addr)} {outer : List Env} {A₀ : Around} {base h₀ : Heap} {L : Addr} {m : Str → Option Value} {news : List (Addr × Obj)} {s : Shared} {Q E : Value → Shared → Prop}

set_option maxRecDepth 100000 in
set_option maxHeartbeats 8000000 in
theorem cells_spec (B : Below A₀ base outer h₀) (F : Fr h₀ L s.heap m) (X : (hd.heap_39 w.params).In h₀) (N : News h₀ L s.heap news) (T : Top hd.view_39 looseL mean mg mb h₀)
    (hk : cs.kind = .function) (hdp : dp + 10 < recursionLimit) (hun : un + 100 < cLine)
    {l : Addr} {its : Array Value} {ns : List Int} (hl : h₀.IsList l its) (hi : IntsAre its.toList ns) (hn : ns.length ≤ 63)
    (hret : ∀ D vs us n h' tk', IntsAre vs us → us.length = 6 → (∀ p ∈ news, p.1 < D) → Fr h₀ L h' m → News h₀ L h' ((D, { cls := .type "list", data := .seq vs.toArray n }) :: news) → Q (.ref D) { s with heap := h', toks := tk' }) :
    wpAny (model pg w) (ktrTop dp un gd cn cs L a ccd cl outer) (call (.ref 56) [.ref l]) Q E s := by
  k_with_none
  k_with "exec For Tuple" => (k_here; refine Stop.out ?_)
  k_with "exec For" => (k_here; refine Stop.out ?_)
  k_with "exec For Tuple Call cons nil" => (k_here; refine Stop.out ?_)
  k_with "call type:enumerate" => (k_here; refine Stop.out ?_)
  k_with "pyIter ref" => (k_here; (with_reducible show wpAny _ _ (pyIter _) (fun it s₂ => LoopAtV _ _ _ _ _ _ _ _ _ it s₂) _ _); refine Stop.out ?_)
  k_with "eval ListComp" => (k_here; refine Stop.out ?_)
  k_with "exec Assign cons ListComp" => (k_here; refine Stop.out ?_)
  k_with "CompSrc" => (k_here; refine Stop.out ?_)
  k_with "compareOp NotEq ref ref" => (k_here; refine Stop.out ?_)
  k_with "ite" => (k_here; first | with_reducible refine ite_tt ?_ | with_reducible refine ite_ff ?_ | with_reducible refine split_not ?_ | (refine ite_both ?_ ?_ <;> intro _))
  k_with "execs cons" => (k_here; dsimp only)
  k_with "execs nil" => (k_here; dsimp only)
  refine wpAny_call ?_
  k_dflt cell_enter
  rename Fr h₀ L _ _ => FG
  have hl' := FG.lst hl
  clear hl
  k_steps
  refine Stop.in ?_
  rename Fr _ _ _ _ => F9
  refine For_turns F9 ?_
  k_steps
  refine Stop.in ?_
  rename Fr _ _ _ _ => F10
  rename News _ _ _ _ => N10
  rename IntsAre _ (List.take 60 ns) => hw
  rename (∀ p ∈ news, p.1 < _) => hl0
  rename _ ∧ AllLt _ news => hl1
  refine cells_loop (us := List.take 60 ns) rfl F10 N10 rfl hw (.cons _ _ (.cons _ _ (.cons _ _ (.cons _ _ (.cons _ _ (.cons _ _ .nil)))))) rfl ?_ ?_
  · intro i n tn T t cv cu u h tk I oe oi hlt hcv h6 hT F1 N1
    have f1 : 0 ≤ (i : Int).fmod 6 := Int.fmod_nonneg_of_pos _ (by decide)
    have f2 : (i : Int).fmod 6 < 6 := Int.fmod_lt_of_pos _ (by decide)
    have f3 : (i : Int).fmod 6 < cu.length := by omega
    have f4 : (i : Int).fmod 6 < 2 ^ 63 := by omega
    clear hw
    k_steps
    rename Fr _ _ _ _ => F11
    rename News _ _ _ _ => N11
    refine ksa_set F11 N11 (.tail (Nat.ne_of_gt (Nat.lt_succ_of_lt hlt.2.1)) (.tail (Nat.ne_of_gt hlt.2.1) (.tail (Nat.ne_of_gt hl1.1) (.head fun p hp => Nat.ne_of_lt (hl0 p hp))))) hcv f1 f3 f4 ?_
    intro h' F12 N12 hI12 hl12 _
    k_steps
    refine enum_end (_, _) F12 N12 (.cons rfl .nil) ⟨hI12, by rw [hl12]; exact h6⟩ ?_ ?_
    · intro p hp
      rcases List.mem_cons.mp hp with rfl | hp
      · exact List.mem_cons_self
      · rw [List.mem_singleton.mp hp]; exact List.mem_cons_of_mem _ List.mem_cons_self
    · exact fun p hp => List.mem_cons_of_mem _ (List.mem_cons_of_mem _ hp)
  · intro cv cu u h tk hcv h6 F1 N1
    clear hw
    k_steps
    rename Fr h₀ L _ _ => kF
    rename News h₀ L _ _ => kN
    exact hret _ _ _ _ _ _ hcv h6 hl0 kF (fun p hp => kN p (List.mem_cons_of_mem _ hp))
end
end Mine
end
section
set_option maxRecDepth 100000
namespace Mine
open Float64 in
theorem halfEven_le {a d M : Nat} (h : a < M * d) : halfEven a d ≤ M := by
  have hd : 0 < d := by
    rcases Nat.eq_zero_or_pos d with rfl | h'
    · simp at h
    · exact h'
  have hq : a / d < M := (Nat.div_lt_iff_lt_mul hd).mpr h
  unfold halfEven
  simp only
  split <;> omega
theorem pow_split {a b c : Nat} (h : a = b + c) : 2 ^ a = 2 ^ b * 2 ^ c := by rw [h, Nat.pow_add]
open Float64 in
/-- a fraction rounded, its exponent known -/
theorem roundMag_at {n d t : Nat} (h1 : 2 ^ 52 * d ≤ n * 2 ^ t) (h2 : n * 2 ^ t < 2 ^ 53 * d) (ht : t ≤ 1074) : roundMag n d = (1074 - t) * 2 ^ 52 + halfEven (n * 2 ^ t) d := by
  have hd : d ≠ 0 := by rintro rfl; simp at h2
  have hn : n ≠ 0 := by
    rintro rfl
    rw [Nat.zero_mul] at h1
    have := Nat.le_zero.mp h1
    rcases Nat.mul_eq_zero.mp this with h | h
    · exact absurd h (by decide)
    · exact hd h
  have n1 := Nat.log2_self_le hn
  have n2 := Nat.lt_log2_self (n := n)
  have d1 := Nat.log2_self_le hd
  have d2 := Nat.lt_log2_self (n := d)
  have hhe := halfEven_le h2
  have ha : 52 + d.log2 < n.log2 + 1 + t := by
    refine (Nat.pow_lt_pow_iff_right (a := 2) (by decide)).mp ?_
    rw [Nat.pow_add, Nat.pow_add 2 (n.log2 + 1)]
    exact Nat.lt_of_le_of_lt (Nat.mul_le_mul_left _ d1) (Nat.lt_of_le_of_lt h1 (Nat.mul_lt_mul_of_pos_right n2 (Nat.two_pow_pos t)))
  have hb : n.log2 + t < 53 + (d.log2 + 1) := by
    refine (Nat.pow_lt_pow_iff_right (a := 2) (by decide)).mp ?_
    rw [Nat.pow_add, Nat.pow_add 2 53]
    exact Nat.lt_of_le_of_lt (Nat.mul_le_mul_right _ n1) (Nat.lt_trans h2 (Nat.mul_lt_mul_of_pos_left d2 (by decide)))
  have hn' : (n == 0) = false := by simpa using hn
  have he : (if (shift n d (-((n.log2 : Int) - (d.log2 : Int)))).1 ≥ (shift n d (-((n.log2 : Int) - (d.log2 : Int)))).2 then (n.log2 : Int) - (d.log2 : Int) - 52 else (n.log2 : Int) - (d.log2 : Int) - 53) = -(t : Int) := by
    by_cases hl : n.log2 ≤ d.log2
    · have e1 : shift n d (-((n.log2 : Int) - (d.log2 : Int))) = (n * 2 ^ (d.log2 - n.log2), d) := by
        unfold shift
        rw [if_pos (by omega)]
        congr 3; omega
      rw [e1]
      dsimp only
      obtain h | h : t = 52 + (d.log2 - n.log2) ∨ t = 53 + (d.log2 - n.log2) := by omega
      · rw [if_pos, h]
        · omega
        · rw [h, Nat.pow_add, Nat.mul_left_comm] at h1
          exact Nat.le_of_mul_le_mul_left h1 (by decide)
      · rw [if_neg, h]
        · omega
        · rw [h, Nat.pow_add, Nat.mul_left_comm] at h2
          exact Nat.not_le.mpr (Nat.lt_of_mul_lt_mul_left h2)
    · have e1 : shift n d (-((n.log2 : Int) - (d.log2 : Int))) = (n, d * 2 ^ (n.log2 - d.log2)) := by
        unfold shift
        rw [if_neg (by omega)]
        congr 3; omega
      rw [e1]
      dsimp only
      have hp := Nat.two_pow_pos t
      obtain h | h : 52 = t + (n.log2 - d.log2) ∨ 53 = t + (n.log2 - d.log2) := by omega
      · rw [if_pos]
        · omega
        · rw [pow_split h, Nat.mul_comm n, Nat.mul_assoc, Nat.mul_comm (2 ^ (n.log2 - d.log2))] at h1
          exact Nat.le_of_mul_le_mul_left h1 hp
      · rw [if_neg]
        · omega
        · rw [pow_split h, Nat.mul_comm n, Nat.mul_assoc, Nat.mul_comm (2 ^ (n.log2 - d.log2))] at h2
          exact Nat.not_le.mpr (Nat.lt_of_mul_lt_mul_left h2)
  unfold roundMag
  rw [hn']
  simp only [Bool.false_eq_true, if_false]
  have he2 : max (if (shift n d (-((n.log2 : Int) - (d.log2 : Int)))).1 ≥ (shift n d (-((n.log2 : Int) - (d.log2 : Int)))).2 then (n.log2 : Int) - (d.log2 : Int) - 52 else (n.log2 : Int) - (d.log2 : Int) - 53) (-1074) = -(t : Int) := by rw [he]; omega
  rw [he2]
  have e3 : shift n d (- -(t : Int)) = (n * 2 ^ t, d) := by
    unfold shift
    rw [if_pos (by omega)]
    congr 3; omega
  rw [e3]
  dsimp only
  have e4 : (-(t : Int) + 1074).toNat = 1074 - t := by omega
  rw [e4]
  refine Nat.min_eq_right ?_
  unfold infMag
  omega
end Mine
end
section
set_option maxRecDepth 100000
namespace Mine
noncomputable def heN (n d : Nat) : Nat := Nat.add (Nat.div n d) (bif Nat.ble (Nat.succ d) (Nat.add (Nat.mul 2 (Nat.mod n d)) (Nat.mod (Nat.div n d) 2)) then 1 else 0)
theorem heN_eq (n d : Nat) : heN n d = Float64.halfEven n d := by
  unfold heN Float64.halfEven
  simp only
  show n / d + (bif Nat.ble (d + 1) (2 * (n % d) + n / d % 2) then 1 else 0) = _
  have h2 : n / d % 2 = 0 ∨ n / d % 2 = 1 := by omega
  cases hb : Nat.ble (d + 1) (2 * (n % d) + n / d % 2) with
  | true =>
    have := Nat.le_of_ble_eq_true hb
    rw [if_pos]
    · rfl
    · simp only [Bool.or_eq_true, Bool.and_eq_true, decide_eq_true_eq, beq_iff_eq]
      omega
  | false =>
    have : ¬ (d + 1 ≤ 2 * (n % d) + n / d % 2) := fun h => by rw [Nat.ble_eq_true_of_le h] at hb; cases hb
    rw [if_neg]
    · rfl
    · simp only [Bool.or_eq_true, Bool.and_eq_true, decide_eq_true_eq, beq_iff_eq]
      omega
/-- roundMag with a guess of the exponent -/
noncomputable def rm (n d t : Nat) : Nat :=
  bif (Nat.ble (Nat.mul 4503599627370496 d) (Nat.mul n (Nat.pow 2 t)) && Nat.ble (Nat.succ (Nat.mul n (Nat.pow 2 t))) (Nat.mul 9007199254740992 d)) && Nat.ble t 1074 then
    Nat.add (Nat.mul (Nat.sub 1074 t) 4503599627370496) (heN (Nat.mul n (Nat.pow 2 t)) d) else Float64.roundMag n d
theorem rm_eq (n d t : Nat) : rm n d t = Float64.roundMag n d := by
  unfold rm
  cases hb : (Nat.ble (Nat.mul 4503599627370496 d) (Nat.mul n (Nat.pow 2 t)) && Nat.ble (Nat.succ (Nat.mul n (Nat.pow 2 t))) (Nat.mul 9007199254740992 d)) && Nat.ble t 1074 with
  | false => rfl
  | true =>
    simp only [Bool.and_eq_true] at hb
    obtain ⟨⟨h1, h2⟩, h3⟩ := hb
    show (1074 - t) * 4503599627370496 + heN (n * 2 ^ t) d = _
    rw [heN_eq, roundMag_at (t := t) (Nat.le_of_ble_eq_true h1) (Nat.le_of_ble_eq_true h2) (Nat.le_of_ble_eq_true h3)]
/-- the place of the leading bit, a guess -/
noncomputable def lg1 (n : Nat) : Nat := bif Nat.ble 2 n then 1 else 0
noncomputable def lg2 (n : Nat) : Nat := bif Nat.ble 4 n then Nat.add 2 (lg1 (Nat.div n 4)) else lg1 n
noncomputable def lg3 (n : Nat) : Nat := bif Nat.ble 16 n then Nat.add 4 (lg2 (Nat.div n 16)) else lg2 n
noncomputable def lg4 (n : Nat) : Nat := bif Nat.ble 256 n then Nat.add 8 (lg3 (Nat.div n 256)) else lg3 n
noncomputable def lg5 (n : Nat) : Nat := bif Nat.ble 65536 n then Nat.add 16 (lg4 (Nat.div n 65536)) else lg4 n
noncomputable def lg6 (n : Nat) : Nat := bif Nat.ble 4294967296 n then Nat.add 32 (lg5 (Nat.div n 4294967296)) else lg5 n
noncomputable def lgN (n : Nat) : Nat := bif Nat.ble 18446744073709551616 n then Nat.add 64 (lg6 (Nat.div n 18446744073709551616)) else lg6 n
noncomputable def frF (neg : Bool) (n d : Nat) : UInt64 :=
  let u := Nat.sub (Nat.add 52 (lgN d)) (lgN n)
  Float64.pack neg (rm n d (bif Nat.ble (Nat.mul 4503599627370496 d) (Nat.mul n (Nat.pow 2 u)) then u else Nat.succ u))
theorem frF_eq (neg : Bool) (n d : Nat) : frF neg n d = Float64.ofFrac neg n d := by
  unfold frF Float64.ofFrac
  simp only [rm_eq]
noncomputable def binF (neg : Bool) (m : Nat) (e : Int) : UInt64 := match e with
  | .ofNat j => frF neg (Nat.mul m (Nat.pow 2 j)) 1
  | .negSucc j => Float64.pack neg (rm m (Nat.pow 2 (Nat.succ j)) (Nat.sub (Nat.add 53 j) (lgN m)))
theorem binF_eq (neg : Bool) (m : Nat) (e : Int) : binF neg m e = Float64.ofBin neg m e := by
  unfold binF Float64.ofBin
  cases e with
  | ofNat j =>
    have : Float64.shift m 1 (Int.ofNat j) = (m * 2 ^ j, 1) := by
      unfold Float64.shift; rw [if_pos (by show (0 : Int) ≤ Int.ofNat j; exact Int.natCast_nonneg j)]; rfl
    rw [this]
    exact frF_eq _ _ _
  | negSucc j =>
    have : Float64.shift m 1 (Int.negSucc j) = (m, 2 ^ (j + 1)) := by
      unfold Float64.shift; rw [if_neg (by omega), Nat.one_mul]; rfl
    rw [this]
    show Float64.pack neg (rm _ _ _) = Float64.ofFrac neg m (2 ^ (j + 1))
    rw [rm_eq]
    unfold Float64.ofFrac
    rfl
noncomputable def mulF (x y : UInt64) : UInt64 := match Float64.decode x, Float64.decode y with
  | .fin a m e, .fin b k f => binF (a != b) (Nat.mul m k) (e + f)
  | _, _ => Float64.mul x y
theorem mulF_eq (x y : UInt64) : mulF x y = Float64.mul x y := by
  unfold mulF
  split
  · rename_i h1 h2
    unfold Float64.mul
    rw [h1, h2]
    exact binF_eq _ _ _
  · rfl
/-- two signed numbers over one exponent, added -/
noncomputable def sumF (a b : Bool) (p q j : Nat) : UInt64 := match a, b with
  | false, false => bif Nat.beq (Nat.add p q) 0 then Float64.zero false else Float64.pack false (rm (Nat.add p q) (Nat.pow 2 (Nat.succ j)) (Nat.sub (Nat.add 53 j) (lgN (Nat.add p q))))
  | true, true => bif Nat.beq (Nat.add p q) 0 then Float64.zero true else Float64.pack true (rm (Nat.add p q) (Nat.pow 2 (Nat.succ j)) (Nat.sub (Nat.add 53 j) (lgN (Nat.add p q))))
  | false, true => bif Nat.beq p q then Float64.zero false else bif Nat.ble q p then Float64.pack false (rm (Nat.sub p q) (Nat.pow 2 (Nat.succ j)) (Nat.sub (Nat.add 53 j) (lgN (Nat.sub p q)))) else Float64.pack true (rm (Nat.sub q p) (Nat.pow 2 (Nat.succ j)) (Nat.sub (Nat.add 53 j) (lgN (Nat.sub q p))))
  | true, false => bif Nat.beq p q then Float64.zero false else bif Nat.ble p q then Float64.pack false (rm (Nat.sub q p) (Nat.pow 2 (Nat.succ j)) (Nat.sub (Nat.add 53 j) (lgN (Nat.sub q p)))) else Float64.pack true (rm (Nat.sub p q) (Nat.pow 2 (Nat.succ j)) (Nat.sub (Nat.add 53 j) (lgN (Nat.sub p q))))
theorem beq_nat (a b : Nat) : (Nat.beq a b = true ∧ a = b) ∨ (Nat.beq a b = false ∧ a ≠ b) := by
  cases h : Nat.beq a b with
  | true => exact .inl ⟨rfl, Nat.eq_of_beq_eq_true h⟩
  | false => exact .inr ⟨rfl, Nat.ne_of_beq_eq_false h⟩
theorem ble_nat (a b : Nat) : (Nat.ble a b = true ∧ a ≤ b) ∨ (Nat.ble a b = false ∧ b < a) := by
  cases h : Nat.ble a b with
  | true => exact .inl ⟨rfl, Nat.le_of_ble_eq_true h⟩
  | false => exact .inr ⟨rfl, Nat.lt_of_not_le fun h' => by rw [Nat.ble_eq_true_of_le h'] at h; cases h⟩
theorem bin_at (neg : Bool) (m j t : Nat) : Float64.pack neg (rm m (Nat.pow 2 (Nat.succ j)) t) = Float64.ofBin neg m (Int.negSucc j) := by
  rw [← binF_eq]
  unfold binF
  simp only [rm_eq]
theorem sumF_eq (a b : Bool) (p q j : Nat) : sumF a b p q j = if Float64.sgn a p + Float64.sgn b q == 0 then Float64.zero (a && b) else Float64.ofBin (decide (Float64.sgn a p + Float64.sgn b q < 0)) (Float64.sgn a p + Float64.sgn b q).natAbs (Int.negSucc j) := by
  unfold sumF
  cases a <;> cases b <;> simp only [bin_at, Float64.sgn, Bool.false_eq_true, if_false, if_true, beq_iff_eq, Bool.and_self, Bool.and_true, Bool.and_false]
  · rcases beq_nat (Nat.add p q) 0 with ⟨h, e⟩ | ⟨h, e⟩
    · rw [h, if_pos (by change p + q = 0 at e; omega)]; rfl
    · change ¬ p + q = 0 at e
      rw [h, if_neg (by omega)]
      rw [cond_false, decide_eq_false (by omega), show ((p : Int) + q).natAbs = p + q by omega]; rfl
  · rcases beq_nat p q with ⟨h, e⟩ | ⟨h, e⟩
    · rw [h, if_pos (by omega)]; rfl
    · rw [h, if_neg (by omega)]
      rcases ble_nat q p with ⟨h2, e2⟩ | ⟨h2, e2⟩
      · rw [h2, cond_false, cond_true, decide_eq_false (by omega), show ((p : Int) + -q).natAbs = p - q by omega]; rfl
      · rw [h2, cond_false, cond_false, decide_eq_true (by omega), show ((p : Int) + -q).natAbs = q - p by omega]; rfl
  · rcases beq_nat p q with ⟨h, e⟩ | ⟨h, e⟩
    · rw [h, if_pos (by omega)]; rfl
    · rw [h, if_neg (by omega)]
      rcases ble_nat p q with ⟨h2, e2⟩ | ⟨h2, e2⟩
      · rw [h2, cond_false, cond_true, decide_eq_false (by omega), show (-(p : Int) + q).natAbs = q - p by omega]; rfl
      · rw [h2, cond_false, cond_false, decide_eq_true (by omega), show (-(p : Int) + q).natAbs = p - q by omega]; rfl
  · rcases beq_nat (Nat.add p q) 0 with ⟨h, e⟩ | ⟨h, e⟩
    · rw [h, if_pos (by change p + q = 0 at e; omega)]; rfl
    · change ¬ p + q = 0 at e
      rw [h, if_neg (by omega)]
      rw [cond_false, decide_eq_true (by omega), show (-(p : Int) + -q).natAbs = p + q by omega]; rfl
theorem align_le {a b : Bool} {m k i j : Nat} (e : i ≤ j) : Float64.align a m (Int.negSucc i) b k (Int.negSucc j) = (Float64.sgn a (m * 2 ^ (j - i)), Float64.sgn b k, Int.negSucc j) := by
  unfold Float64.align
  rw [show min (Int.negSucc i) (Int.negSucc j) = Int.negSucc j by omega]
  simp only
  rw [show (Int.negSucc i - Int.negSucc j).toNat = j - i by omega, show (Int.negSucc j - Int.negSucc j).toNat = 0 by omega, Nat.pow_zero, Nat.mul_one]
theorem align_gt {a b : Bool} {m k i j : Nat} (e : j < i) : Float64.align a m (Int.negSucc i) b k (Int.negSucc j) = (Float64.sgn a m, Float64.sgn b (k * 2 ^ (i - j)), Int.negSucc i) := by
  unfold Float64.align
  rw [show min (Int.negSucc i) (Int.negSucc j) = Int.negSucc i by omega]
  simp only
  rw [show (Int.negSucc j - Int.negSucc i).toNat = i - j by omega, show (Int.negSucc i - Int.negSucc i).toNat = 0 by omega, Nat.pow_zero, Nat.mul_one]
noncomputable def addF (x y : UInt64) : UInt64 := match Float64.decode x, Float64.decode y with
  | .fin a m (.negSucc i), .fin b k (.negSucc j) => bif Nat.ble i j then sumF a b (Nat.mul m (Nat.pow 2 (Nat.sub j i))) k j else sumF a b m (Nat.mul k (Nat.pow 2 (Nat.sub i j))) i
  | _, _ => Float64.add x y
theorem addF_eq (x y : UInt64) : addF x y = Float64.add x y := by
  unfold addF
  split
  · rename_i a m i b k j h1 h2
    unfold Float64.add
    rw [h1, h2]
    simp only [sumF_eq]
    rcases ble_nat i j with ⟨h, e⟩ | ⟨h, e⟩
    · rw [h, align_le e]; rfl
    · rw [h, align_gt e]; rfl
  · rfl
noncomputable def subF (x y : UInt64) : UInt64 := addF x (Float64.neg y)
theorem subF_eq (x y : UInt64) : subF x y = Float64.sub x y := by
  unfold subF Float64.sub
  exact addF_eq _ _
noncomputable def cmpN (p q : Nat) : Ordering := bif Nat.beq p q then .eq else bif Nat.ble p q then .lt else .gt
theorem cmpN_eq (p q : Nat) : cmpN p q = compare (Float64.sgn false p) (Float64.sgn false q) := by
  unfold cmpN
  simp only [Float64.sgn, Bool.false_eq_true, if_false]
  show _ = compareOfLessAndEq (p : Int) (q : Int)
  unfold compareOfLessAndEq
  rcases beq_nat p q with ⟨h, e⟩ | ⟨h, e⟩
  · rw [h, cond_true, if_neg (by omega), if_pos (by omega)]
  · rw [h, cond_false]
    rcases ble_nat p q with ⟨h2, e2⟩ | ⟨h2, e2⟩
    · rw [h2, cond_true, if_pos (by omega)]
    · rw [h2, cond_false, if_neg (by omega), if_neg (by omega)]
noncomputable def cmpF (x y : UInt64) : Option Ordering := match Float64.decode x, Float64.decode y with
  | .fin false m (.negSucc i), .fin false k (.negSucc j) => bif Nat.ble i j then some (cmpN (Nat.mul m (Nat.pow 2 (Nat.sub j i))) k) else some (cmpN m (Nat.mul k (Nat.pow 2 (Nat.sub i j))))
  | _, _ => Float64.cmp x y
theorem cmpF_eq (x y : UInt64) : cmpF x y = Float64.cmp x y := by
  unfold cmpF
  split
  · rename_i m i k j h1 h2
    unfold Float64.cmp
    rw [h1, h2]
    simp only [cmpN_eq]
    rcases ble_nat i j with ⟨h, e⟩ | ⟨h, e⟩
    · rw [h, align_le e]; rfl
    · rw [h, align_gt e]; rfl
  · rfl
noncomputable def divF (x y : UInt64) : UInt64 := match Float64.decode x, Float64.decode y with
  | .fin a m e, .fin b k f => bif Nat.beq k 0 then Float64.div x y else frF (a != b) (Float64.shift m k (e - f)).1 (Float64.shift m k (e - f)).2
  | _, _ => Float64.div x y
theorem divF_eq (x y : UInt64) : divF x y = Float64.div x y := by
  unfold divF
  split
  · rename_i a m e b k f h1 h2
    cases hk : Nat.beq k 0 with
    | true => rfl
    | false =>
      have : (k == 0) = false := by
        cases k with
        | zero => exact absurd hk (by decide)
        | succ k => rfl
      show frF _ _ _ = _
      rw [frF_eq]
      unfold Float64.div
      rw [h1, h2]
      simp [this]
  · rfl
noncomputable def intF (i : Int) : UInt64 := frF (i < 0) i.natAbs 1
theorem intF_eq (i : Int) : intF i = Float64.ofInt i := by
  unfold intF Float64.ofInt
  exact frF_eq _ _ _
end Mine
end
section
set_option maxRecDepth 100000
namespace Mine
noncomputable def dvF (a b : Int) : UInt64 := frF (decide (a < 0) != decide (b < 0)) a.natAbs b.natAbs
theorem dvF_eq (a b : Int) : dvF a b = dvI a b := by unfold dvF dvI; exact frF_eq _ _ _
noncomputable def fmodF (x : UInt64) : UInt64 := match Float64.decode x with
  | .fin a m e => match Float64.align false m e false 4503599627370496 (-52) with
    | (p, q, g) => binF a (p.toNat % q.toNat) g
  | _ => Float64.fmod x 4607182418800017408
noncomputable def isFin (x : Float64.Num) (a : Bool) (m : Nat) (e : Int) : Bool := match x with | .fin b k f => a == b && m == k && decide (e = f) | _ => false
theorem isFin_eq {x : Float64.Num} {a : Bool} {m : Nat} {e : Int} (h : isFin x a m e = true) : x = .fin a m e := by
  cases x with
  | fin b k f =>
    simp only [isFin, Bool.and_eq_true, beq_iff_eq, decide_eq_true_eq] at h
    obtain ⟨⟨rfl, rfl⟩, rfl⟩ := h
    rfl
  | nan => cases h
  | inf _ => cases h
theorem one_decode : Float64.decode 4607182418800017408 = .fin false 4503599627370496 (-52) := isFin_eq (by decide +kernel)
/-! values made ready ahead of their use: the checker's own work is done once -/
noncomputable def force {α : Type} (n : Nat) (f : Nat → α) : α := Nat.casesOn n (f 0) fun m => f (Nat.succ m)
theorem force_eq {α : Type} (n : Nat) (f : Nat → α) : force n f = f n := by cases n <;> rfl
noncomputable def forceU {α : Type} (x : UInt64) (f : UInt64 → α) : α := force x.toNat fun n => f (UInt64.ofNat n)
theorem forceU_eq {α : Type} (x : UInt64) (f : UInt64 → α) : forceU x f = f x := by unfold forceU; rw [force_eq, UInt64.ofNat_toNat]
noncomputable def forceI {α : Type} (x : Int) (f : Int → α) : α := Int.casesOn x (fun n => force n fun n => f (.ofNat n)) fun n => force n fun n => f (.negSucc n)
theorem forceI_eq {α : Type} (x : Int) (f : Int → α) : forceI x f = f x := by
  cases x with
  | ofNat n => show force n (fun n => f (.ofNat n)) = _; rw [force_eq]
  | negSucc n => show force n (fun n => f (.negSucc n)) = _; rw [force_eq]
theorem fmodF_eq (x : UInt64) : fmodF x = Float64.fmod x 4607182418800017408 := by
  unfold fmodF
  split
  · rename_i h1
    unfold Float64.fmod
    rw [h1, one_decode]
    simp only [binF_eq]
    rfl
  · rfl
noncomputable def mod1F (x : UInt64) : UInt64 :=
  let m := fmodF x
  if Float64.isZero m then Float64.copysign (Float64.zero false) 4607182418800017408 else if Float64.lt 4607182418800017408 (Float64.zero false) != Float64.lt m (Float64.zero false) then addF m 4607182418800017408 else m
theorem mod1F_eq (x : UInt64) : mod1F x = fMod1 x := by
  unfold mod1F fMod1 Float64.divmod
  simp only [fmodF_eq, addF_eq]
  split
  · rfl
  · split <;> rfl
noncomputable def hsvHF (r g b M m : Int) : UInt64 :=
  if m = M then 0 else
  forceI (M - m) fun R => forceI (M - r) fun x => forceI (M - g) fun y => forceI (M - b) fun z =>
  forceU (dvF x R) fun rc => forceU (dvF y R) fun gc => forceU (dvF z R) fun bc =>
  forceU (if r = M then subF bc gc else if g = M then forceU (addF 4611686018427387904 rc) fun u => subF u bc else forceU (addF 4616189618054758400 gc) fun u => subF u rc) fun h =>
  forceU (divF h 4618441417868443648) fun k => mod1F k
theorem hsvHF_eq (r g b : Int) : hsvHF r g b (mxI r g b) (mnI r g b) = hsvH r g b := by simp only [hsvHF, hsvH, forceI_eq, forceU_eq, dvF_eq, subF_eq, addF_eq, divF_eq, mod1F_eq]
noncomputable def hsvSF (M m : Int) : UInt64 := if m = M then 0 else forceI (M - m) fun R => dvF R M
theorem hsvSF_eq (r g b : Int) : hsvSF (mxI r g b) (mnI r g b) = hsvS r g b := by simp only [hsvSF, hsvS, dvF_eq, forceI_eq]
noncomputable def sclF (r : Int) : UInt64 := forceU (intF r) fun x => mulF x unitF
theorem sclF_eq (r : Int) : sclF r = scl r := by simp only [sclF, scl, mulF_eq, intF_eq, forceU_eq]
noncomputable def hlsLF (M m : UInt64) : UInt64 := forceU (addF M m) fun u => divF u 4611686018427387904
theorem hlsLF_eq (r g b : UInt64) : hlsLF (mxF r g b) (mnF r g b) = hlsL r g b := by simp only [hlsLF, hlsL, addF_eq, divF_eq, forceU_eq]
noncomputable def hlsSF (M m l : UInt64) : UInt64 :=
  if (cmpF m M == some .eq) = true then 0 else
  forceU (subF M m) fun R =>
  if (cmpF l 4602678819172646912 == some .lt || cmpF l 4602678819172646912 == some .eq) = true then forceU (addF M m) fun u => divF R u
  else forceU (subF 4611686018427387904 M) fun u => forceU (subF u m) fun v => divF R v
theorem hlsSF_eq (r g b : UInt64) : hlsSF (mxF r g b) (mnF r g b) (hlsL r g b) = hlsS r g b := by simp only [hlsSF, hlsS, addF_eq, divF_eq, subF_eq, forceU_eq, cmpF_eq]
noncomputable def hlsHF (r g b M m : UInt64) : UInt64 :=
  if (cmpF m M == some .eq) = true then 0 else
  forceU (subF M m) fun R => forceU (subF M r) fun x => forceU (subF M g) fun y => forceU (subF M b) fun z =>
  forceU (divF x R) fun rc => forceU (divF y R) fun gc => forceU (divF z R) fun bc =>
  forceU (if (cmpF r M == some .eq) = true then subF bc gc else if (cmpF g M == some .eq) = true then forceU (addF 4611686018427387904 rc) fun u => subF u bc else forceU (addF 4616189618054758400 gc) fun u => subF u rc) fun h =>
  forceU (divF h 4618441417868443648) fun k => mod1F k
theorem hlsHF_eq (r g b : UInt64) : hlsHF r g b (mxF r g b) (mnF r g b) = hlsH r g b := by simp only [hlsHF, hlsH, addF_eq, divF_eq, subF_eq, mod1F_eq, forceU_eq, cmpF_eq]
/-- z stands for the hue within its turn -/
noncomputable def vFF (x y z : UInt64) : UInt64 :=
  if (cmpF z 4595172819793696085 == some .lt) = true then forceU (subF y x) fun d => forceU (mulF d z) fun e => forceU (mulF e 4618441417868443648) fun k => addF x k else
  if (cmpF z 4602678819172646912 == some .lt) = true then y else
  if (cmpF z 4604180019048437077 == some .lt) = true then forceU (subF y x) fun d => forceU (subF 4604180019048437077 z) fun c => forceU (mulF d c) fun e => forceU (mulF e 4618441417868443648) fun k => addF x k else x
theorem vFF_eq (x y z : UInt64) : vFF x y (fMod1 z) = vF x y z := by simp only [vFF, vF, addF_eq, mulF_eq, subF_eq, forceU_eq, cmpF_eq]
noncomputable def h2rM2F (l sh : UInt64) : UInt64 := if (cmpF l 4602678819172646912 == some .lt || cmpF l 4602678819172646912 == some .eq) = true then forceU (addF 4607182418800017408 sh) fun u => mulF l u else forceU (addF l sh) fun u => forceU (mulF l sh) fun v => subF u v
theorem h2rM2F_eq (l sh : UInt64) : h2rM2F l sh = h2rM2 l sh := by simp only [h2rM2F, h2rM2, addF_eq, mulF_eq, subF_eq, forceU_eq, cmpF_eq]
noncomputable def h2rF (l sh m2 z : UInt64) : UInt64 := if (cmpF sh 0 == some .eq) = true then l else forceU (mulF 4611686018427387904 l) fun u => forceU (subF u m2) fun m1 => forceU (mod1F z) fun z => vFF m1 m2 z
theorem h2rF_eq (h l sh z : UInt64) : h2rF l sh (h2rM2 l sh) z = h2r h l sh z := by simp only [h2rF, h2r, mulF_eq, subF_eq, vFF_eq, forceU_eq, mod1F_eq, cmpF_eq]
noncomputable def qFF (k : Int) (x : UInt64) : Int := forceU (intF k) fun c => forceU (mulF c x) fun u => forceU (addF u 4607182418800017408) fun v => (trI v).fdiv 2
theorem one_int : Float64.ofInt 1 = 4607182418800017408 := by decide +kernel
theorem qFF_eq (k : Int) (x : UInt64) : qFF k x = qF k x := by simp only [qFF, qF, addF_eq, mulF_eq, intF_eq, forceU_eq, one_int]
noncomputable def okFF (x : UInt64) (t : Int) : Bool := forceU (intF 2000) fun c => forceU (mulF c x) fun u => forceU (addF u 4607182418800017408) fun v => (trI v).fdiv 2 == 1000 * t && Float64.isFinite v
theorem okFF_eq (x : UInt64) (t : Int) : okFF x t = okN (.F x) t := by simp only [okFF, okN, qN, qF, finN, addF_eq, mulF_eq, intF_eq, forceU_eq, one_int]
noncomputable def okNF (k : Num) (t : Int) : Bool := match k with
  | .I n => (2000 * n + 1).fdiv 2 == 1000 * t && (decide (1 ≤ n) && decide (n ≤ 16))
  | .F x => okFF x t
theorem okNF_eq (k : Num) (x : Int) : okNF k x = okN k x := by
  cases k with
  | I n => rfl
  | F y => exact okFF_eq y x
noncomputable def s2rF (h sh : UInt64) (v r g b : Int) : Bool :=
  if (cmpF sh 0 == some .eq) = true then okNF (.I v) r && okNF (.I v) g && okNF (.I v) b else
  forceU (intF v) fun V => forceU (mulF h 4618441417868443648) fun H => forceI (trI H) fun i => forceU (intF i) fun I => forceU (subF H I) fun f =>
  forceU (subF 4607182418800017408 sh) fun c => forceU (mulF V c) fun p =>
  let q (k : UInt64 → Bool) : Bool := forceU (mulF sh f) fun u => forceU (subF 4607182418800017408 u) fun u => forceU (mulF V u) k
  let t (k : UInt64 → Bool) : Bool := forceU (subF 4607182418800017408 f) fun u => forceU (mulF sh u) fun u => forceU (subF 4607182418800017408 u) fun u => forceU (mulF V u) k
  if i.fmod 6 = 0 then okNF (.I v) r && t (fun t => okFF t g) && okFF p b else if i.fmod 6 = 1 then q (fun q => okFF q r) && okNF (.I v) g && okFF p b else if i.fmod 6 = 2 then okFF p r && okNF (.I v) g && t (fun t => okFF t b) else
  if i.fmod 6 = 3 then okFF p r && q (fun q => okFF q g) && okNF (.I v) b else if i.fmod 6 = 4 then t (fun t => okFF t r) && okFF p g && okNF (.I v) b else okNF (.I v) r && okFF p g && q (fun q => okFF q b)
theorem s2rF_eq (h sh : UInt64) (v r g b : Int) : s2rF h sh v r g b = (okN (s2r h sh v).1 r && okN (s2r h sh v).2.1 g && okN (s2r h sh v).2.2 b) := by
  simp only [s2rF, s2r, mulF_eq, subF_eq, intF_eq, forceU_eq, forceI_eq, cmpF_eq, okNF_eq, okFF_eq]
  split
  · rfl
  · split
    · rfl
    · split
      · rfl
      · split
        · rfl
        · split
          · rfl
          · split <;> rfl
theorem h2r_eqF (h l sh z : UInt64) : h2r h l sh z = h2rF l sh (h2rM2 l sh) z := (h2rF_eq h l sh z).symm
noncomputable def partF (x : UInt64) (t : Int) : Bool := forceU x fun x => forceU (intF 16) fun c => forceU (mulF c x) fun y => okFF y t
theorem partF_eq (x : UInt64) (t : Int) : partF x t = okN (.F (Float64.mul (Float64.ofInt 16) x)) t := by simp only [partF, forceU_eq, mulF_eq, intF_eq, okFF_eq]
noncomputable def okAtF (r g b : Int) : Bool :=
  forceU (sclF r) fun R => forceU (sclF g) fun G => forceU (sclF b) fun B =>
  forceI (mxI r g b) fun V => forceI (mnI r g b) fun v =>
  forceU (mxF R G B) fun M => forceU (mnF R G B) fun m =>
  forceU (hsvHF r g b V v) fun H => forceU (hsvSF V v) fun S =>
  forceU (hlsHF R G B M m) fun H2 => forceU (hlsLF M m) fun L2 => forceU (hlsSF M m L2) fun S2 => forceU (h2rM2F L2 S2) fun m2 =>
  forceU (addF M m) (fun u => !Float64.isZero u) && forceU (subF 4611686018427387904 M) (fun u => forceU (subF u m) fun u => !Float64.isZero u) &&
  ((cmpF m M == some .eq) || forceU (subF M m) (fun u => !Float64.isZero u)) &&
  forceU (mulF H 4618441417868443648) (fun u => Float64.isFinite u) && forceU (mulF H 4618441417868443648) (fun u => (trI u).natAbs < 100) &&
  forceU (intF 720000) (fun c => forceU (mulF c H) fun u => forceU (addF u 4607182418800017408) fun u => Float64.isFinite u) && H2 == H &&
  (cmpF H2 H == some .eq) && (Float64.cmpInt H 0 == some .gt || Float64.cmpInt H 0 == some .eq) && (Float64.cmpInt H 1 == some .lt) &&
  s2rF H S V r g b &&
  forceU (addF H2 4599676419421066581) (fun z => partF (h2rF L2 S2 m2 z) r) && partF (h2rF L2 S2 m2 H2) g && forceU (subF H2 4599676419421066581) (fun z => partF (h2rF L2 S2 m2 z) b)
theorem okAtF_eq (r g b : Int) : okAtF r g b = okAt r g b := by
  simp only [okAtF, okAt, forceU_eq, forceI_eq, cmpF_eq, addF_eq, mulF_eq, subF_eq, intF_eq, s2rF_eq, h2r_eqF, partF_eq, h2rM2F_eq, sclF_eq, hsvHF_eq, hsvSF_eq, hlsHF_eq, hlsLF_eq, hlsSF_eq, one_int, Bool.and_assoc]
end Mine
end
section
set_option maxRecDepth 100000
namespace Mine
noncomputable def hueL : Nat → List Int
  | 0 => [240000, 220000, 200000, 180000, 165000, 156000, 150000, 260000, 240000, 210000, 180000, 160000, 150000, 144000, 280000, 270000, 240000, 180000, 150000, 140000, 135000, 300000, 300000, 300000, 0, 120000, 120000, 120000, 315000, 320000, 330000, 0, 60000, 90000, 100000, 324000, 330000, 340000, 0, 30000, 60000, 80000, 330000, 336000, 345000, 0, 20000, 40000, 60000]
  | 1 => [0, 340000, 320000, 300000, 285000, 276000, 270000, 20000, 0, 330000, 300000, 280000, 270000, 264000, 40000, 30000, 0, 300000, 270000, 260000, 255000, 60000, 60000, 60000, 0, 240000, 240000, 240000, 75000, 80000, 90000, 120000, 180000, 210000, 220000, 84000, 90000, 100000, 120000, 150000, 180000, 200000, 90000, 96000, 105000, 120000, 140000, 160000, 180000]
  | 2 => [120000, 100000, 80000, 60000, 45000, 36000, 30000, 140000, 120000, 90000, 60000, 40000, 30000, 24000, 160000, 150000, 120000, 60000, 30000, 20000, 15000, 180000, 180000, 180000, 0, 0, 0, 0, 195000, 200000, 210000, 240000, 300000, 330000, 340000, 204000, 210000, 220000, 240000, 270000, 300000, 320000, 210000, 216000, 225000, 240000, 260000, 280000, 300000]
  | 3 => [240000, 260000, 280000, 300000, 315000, 324000, 330000, 220000, 240000, 270000, 300000, 320000, 330000, 336000, 200000, 210000, 240000, 300000, 330000, 340000, 345000, 180000, 180000, 180000, 0, 0, 0, 0, 165000, 160000, 150000, 120000, 60000, 30000, 20000, 156000, 150000, 140000, 120000, 90000, 60000, 40000, 150000, 144000, 135000, 120000, 100000, 80000, 60000]
  | 4 => [0, 20000, 40000, 60000, 75000, 84000, 90000, 340000, 0, 30000, 60000, 80000, 90000, 96000, 320000, 330000, 0, 60000, 90000, 100000, 105000, 300000, 300000, 300000, 0, 120000, 120000, 120000, 285000, 280000, 270000, 240000, 180000, 150000, 140000, 276000, 270000, 260000, 240000, 210000, 180000, 160000, 270000, 264000, 255000, 240000, 220000, 200000, 180000]
  | _ => [120000, 140000, 160000, 180000, 195000, 204000, 210000, 100000, 120000, 150000, 180000, 200000, 210000, 216000, 80000, 90000, 120000, 180000, 210000, 220000, 225000, 60000, 60000, 60000, 0, 240000, 240000, 240000, 45000, 40000, 30000, 0, 300000, 270000, 260000, 36000, 30000, 20000, 0, 330000, 300000, 280000, 30000, 24000, 15000, 0, 340000, 320000, 300000]
noncomputable def hueF (wh t : Nat) : Int := (hueL wh).getD t 0
end Mine
end
section
set_option maxRecDepth 100000
namespace Mine
noncomputable def near (c x y : Nat) : Bool := Nat.ble 4 c && Nat.ble c 12 && Nat.ble c (Nat.add x 3) && Nat.ble x (Nat.add c 3) && Nat.ble c (Nat.add y 3) && Nat.ble y (Nat.add c 3)
noncomputable def inS (r g b : Nat) : Bool := near r g b || near g r b || near b r g
noncomputable def rowOK (r : Nat) : Bool := (List.range 16).all fun g => (List.range 16).all fun b => bif inS r g b then force g fun g => force b fun b => okAtF (Int.ofNat r) (Int.ofNat g) (Int.ofNat b) else true
theorem row_0 : rowOK 0 = true := by decide +kernel
theorem row_1 : rowOK 1 = true := by decide +kernel
theorem row_2 : rowOK 2 = true := by decide +kernel
theorem row_3 : rowOK 3 = true := by decide +kernel
theorem row_4 : rowOK 4 = true := by decide +kernel
theorem row_5 : rowOK 5 = true := by decide +kernel
theorem row_6 : rowOK 6 = true := by decide +kernel
theorem row_7 : rowOK 7 = true := by decide +kernel
theorem row_8 : rowOK 8 = true := by decide +kernel
theorem row_9 : rowOK 9 = true := by decide +kernel
theorem row_10 : rowOK 10 = true := by decide +kernel
theorem row_11 : rowOK 11 = true := by decide +kernel
theorem row_12 : rowOK 12 = true := by decide +kernel
theorem row_13 : rowOK 13 = true := by decide +kernel
theorem row_14 : rowOK 14 = true := by decide +kernel
theorem row_15 : rowOK 15 = true := by decide +kernel
theorem zeros : ((rng 4 9).all zeroAt) = true := by decide +kernel
theorem rows {r : Nat} (h : r < 16) : rowOK r = true := by
  rcases lt_cases (n := 15) h with h | rfl
  case inr => exact row_15
  rcases lt_cases (n := 14) h with h | rfl
  case inr => exact row_14
  rcases lt_cases (n := 13) h with h | rfl
  case inr => exact row_13
  rcases lt_cases (n := 12) h with h | rfl
  case inr => exact row_12
  rcases lt_cases (n := 11) h with h | rfl
  case inr => exact row_11
  rcases lt_cases (n := 10) h with h | rfl
  case inr => exact row_10
  rcases lt_cases (n := 9) h with h | rfl
  case inr => exact row_9
  rcases lt_cases (n := 8) h with h | rfl
  case inr => exact row_8
  rcases lt_cases (n := 7) h with h | rfl
  case inr => exact row_7
  rcases lt_cases (n := 6) h with h | rfl
  case inr => exact row_6
  rcases lt_cases (n := 5) h with h | rfl
  case inr => exact row_5
  rcases lt_cases (n := 4) h with h | rfl
  case inr => exact row_4
  rcases lt_cases (n := 3) h with h | rfl
  case inr => exact row_3
  rcases lt_cases (n := 2) h with h | rfl
  case inr => exact row_2
  rcases lt_cases (n := 1) h with h | rfl
  case inr => exact row_1
  rcases lt_cases (n := 0) h with h | rfl
  case inr => exact row_0
  exact absurd h (Nat.not_lt_zero _)
theorem all_rangeF {n : Nat} {P : Nat → Bool} (h : (List.range n).all P = true) {i : Nat} (hi : i < n) : P i = true := List.all_eq_true.mp h i (List.mem_range.mpr hi)
theorem ble_of {a b : Nat} (h : a ≤ b) : Nat.ble a b = true := Nat.ble_eq_true_of_le h
theorem near_of {c x y : Nat} (h1 : 4 ≤ c) (h2 : c ≤ 12) (h3 : c ≤ x + 3) (h4 : x ≤ c + 3) (h5 : c ≤ y + 3) (h6 : y ≤ c + 3) : near c x y = true := by
  unfold near
  rw [ble_of h1, ble_of h2, ble_of (a := c) (b := Nat.add x 3) h3, ble_of (b := Nat.add c 3) h4, ble_of (a := c) (b := Nat.add y 3) h5, ble_of (b := Nat.add c 3) h6]
  rfl
theorem ok_inS {r g b : Nat} (hr : r < 16) (hg : g < 16) (hb : b < 16) (h : inS r g b = true) : okAt r g b = true := by
  have h1 := all_rangeF (all_rangeF (rows hr) hg) hb
  rw [h, cond_true, force_eq, force_eq, okAtF_eq] at h1
  exact h1
theorem ok_near {r g b : Int} (h : (4 ≤ r ∧ r ≤ 12 ∧ r ≤ g + 3 ∧ g ≤ r + 3 ∧ r ≤ b + 3 ∧ b ≤ r + 3) ∨ (4 ≤ g ∧ g ≤ 12 ∧ g ≤ r + 3 ∧ r ≤ g + 3 ∧ g ≤ b + 3 ∧ b ≤ g + 3) ∨ (4 ≤ b ∧ b ≤ 12 ∧ b ≤ r + 3 ∧ r ≤ b + 3 ∧ b ≤ g + 3 ∧ g ≤ b + 3)) : okAt r g b = true := by
  obtain ⟨i, rfl⟩ : ∃ i : Nat, r = i := ⟨r.toNat, by omega⟩
  obtain ⟨j, rfl⟩ : ∃ i : Nat, g = i := ⟨g.toNat, by omega⟩
  obtain ⟨k, rfl⟩ : ∃ i : Nat, b = i := ⟨b.toNat, by omega⟩
  refine ok_inS (by omega) (by omega) (by omega) ?_
  unfold inS
  simp only [Bool.or_eq_true]
  rcases h with h | h | h
  · exact .inl (.inl (near_of (by omega) (by omega) (by omega) (by omega) (by omega) (by omega)))
  · exact .inl (.inr (near_of (by omega) (by omega) (by omega) (by omega) (by omega) (by omega)))
  · exact .inr (near_of (by omega) (by omega) (by omega) (by omega) (by omega) (by omega))
theorem ok_white {r g b W : Int} (h4 : 4 ≤ W) (h12 : W ≤ 12) (hr : W - 3 ≤ r ∧ r ≤ W + 3) (hg : W - 3 ≤ g ∧ g ≤ W + 3) (hb : W - 3 ≤ b ∧ b ≤ W + 3) (h : r = W ∨ g = W ∨ b = W) : okAt r g b = true := by
  rcases h with rfl | rfl | rfl
  · exact ok_near (.inl ⟨h4, h12, by omega, by omega, by omega, by omega⟩)
  · exact ok_near (.inr (.inl ⟨h4, h12, by omega, by omega, by omega, by omega⟩))
  · exact ok_near (.inr (.inr ⟨h4, h12, by omega, by omega, by omega, by omega⟩))
theorem pt_own {i j W l p k : Int} (h1 : k ≠ i) (h2 : k ≠ j) : pt i j W l p k = W := by unfold pt; rw [if_neg h1, if_neg h2, Int.add_zero, Int.add_zero]
theorem pt_near {i j W l p k : Int} (hij : i ≠ j) (h1 : -3 ≤ l) (h2 : l ≤ 3) (h3 : -3 ≤ p) (h4 : p ≤ 3) : W - 3 ≤ pt i j W l p k ∧ pt i j W l p k ≤ W + 3 := by
  unfold pt
  split <;> split <;> omega
theorem own_of (wh : Nat) : iOf wh ≠ jOf wh ∧ ((0 ≠ iOf wh ∧ 0 ≠ jOf wh) ∨ (1 ≠ iOf wh ∧ 1 ≠ jOf wh) ∨ (2 ≠ iOf wh ∧ 2 ≠ jOf wh)) := by
  match wh with
  | 0 => decide
  | 1 => decide
  | 2 => decide
  | 3 => decide
  | 4 => decide
  | _ + 5 => exact (by decide : (0 : Int) ≠ 2 ∧ (((0 : Int) ≠ 0 ∧ (0 : Int) ≠ 2) ∨ ((1 : Int) ≠ 0 ∧ (1 : Int) ≠ 2) ∨ ((2 : Int) ≠ 0 ∧ (2 : Int) ≠ 2)))
theorem mxI_shift (a b d c : Int) : mxI (a + c) (b + c) (d + c) = mxI a b d + c := by
  unfold mxI; dsimp only; (repeat' split) <;> omega
theorem mnI_shift (a b d c : Int) : mnI (a + c) (b + c) (d + c) = mnI a b d + c := by
  unfold mnI; dsimp only; (repeat' split) <;> omega
theorem hsvH_shift (r g b c : Int) : hsvH (r + c) (g + c) (b + c) = hsvH r g b := by
  have e0 : ∀ x y : Int, (x + c = y + c) = (x = y) := fun x y => propext ⟨fun h => by omega, fun h => by omega⟩
  have e1 : ∀ x y : Int, x + c - (y + c) = x - y := fun x y => by omega
  simp only [hsvH, mxI_shift, mnI_shift, e0, e1]
noncomputable def hueChk (w x y : Nat) : Bool :=
  forceI (pt (iOf w) (jOf w) 0 (-3 + x) (-3 + y) 0) fun r => forceI (pt (iOf w) (jOf w) 0 (-3 + x) (-3 + y) 1) fun g => forceI (pt (iOf w) (jOf w) 0 (-3 + x) (-3 + y) 2) fun b =>
  forceI (mxI r g b) fun M => forceI (mnI r g b) fun m => forceU (hsvHF r g b M m) fun H => qFF 720000 H == hueF w (7 * x + y)
end Mine
end
section
set_option maxRecDepth 100000
namespace Mine
theorem chk_0 : ((List.range 7).all fun x => (List.range 7).all fun y => force x fun x => force y fun y => hueChk 0 x y) = true := by decide +kernel
theorem chk_1 : ((List.range 7).all fun x => (List.range 7).all fun y => force x fun x => force y fun y => hueChk 1 x y) = true := by decide +kernel
theorem chk_2 : ((List.range 7).all fun x => (List.range 7).all fun y => force x fun x => force y fun y => hueChk 2 x y) = true := by decide +kernel
theorem chk_3 : ((List.range 7).all fun x => (List.range 7).all fun y => force x fun x => force y fun y => hueChk 3 x y) = true := by decide +kernel
theorem chk_4 : ((List.range 7).all fun x => (List.range 7).all fun y => force x fun x => force y fun y => hueChk 4 x y) = true := by decide +kernel
theorem chk_5 : ((List.range 7).all fun x => (List.range 7).all fun y => force x fun x => force y fun y => hueChk 5 x y) = true := by decide +kernel
theorem hue_at {w x y : Nat} (hw : w < 6) (hx : x < 7) (hy : y < 7) : hueChk w x y = true := by
  rcases lt_cases (n := 5) hw with hw | rfl
  case inr => have h1 := all_rangeF (all_rangeF chk_5 hx) hy; rw [force_eq, force_eq] at h1; exact h1
  rcases lt_cases (n := 4) hw with hw | rfl
  case inr => have h1 := all_rangeF (all_rangeF chk_4 hx) hy; rw [force_eq, force_eq] at h1; exact h1
  rcases lt_cases (n := 3) hw with hw | rfl
  case inr => have h1 := all_rangeF (all_rangeF chk_3 hx) hy; rw [force_eq, force_eq] at h1; exact h1
  rcases lt_cases (n := 2) hw with hw | rfl
  case inr => have h1 := all_rangeF (all_rangeF chk_2 hx) hy; rw [force_eq, force_eq] at h1; exact h1
  rcases lt_cases (n := 1) hw with hw | rfl
  case inr => have h1 := all_rangeF (all_rangeF chk_1 hx) hy; rw [force_eq, force_eq] at h1; exact h1
  rcases lt_cases (n := 0) hw with hw | rfl
  case inr => have h1 := all_rangeF (all_rangeF chk_0 hx) hy; rw [force_eq, force_eq] at h1; exact h1
  exact absurd hw (Nat.not_lt_zero _)
theorem pt_shift (i j W l p k : Int) : pt i j W l p k = pt i j 0 l p k + W := by unfold pt; omega
theorem hue_fact {w x y : Nat} {W : Int} (hw : w < 6) (hx : x < 7) (hy : y < 7) : qF 720000 (hsvH (pt (iOf w) (jOf w) W (-3 + x) (-3 + y) 0) (pt (iOf w) (jOf w) W (-3 + x) (-3 + y) 1) (pt (iOf w) (jOf w) W (-3 + x) (-3 + y) 2)) = hueF w (7 * x + y) := by
  have h := hue_at hw hx hy
  unfold hueChk at h
  simp only [forceI_eq, forceU_eq, hsvHF_eq, qFF_eq, beq_iff_eq] at h
  rw [pt_shift (iOf w) (jOf w) W (-3 + x) (-3 + y) 0, pt_shift (iOf w) (jOf w) W (-3 + x) (-3 + y) 1, pt_shift (iOf w) (jOf w) W (-3 + x) (-3 + y) 2, hsvH_shift]
  exact h
theorem seen_facts {wh : Nat} {W : Int} (h : wh < 6) (h1 : 4 ≤ W) (h2 : W ≤ 12) : zeroAt W = true ∧ ∀ x y : Nat, x < 7 → y < 7 →
    okAt (pt (iOf wh) (jOf wh) W (-3 + x) (-3 + y) 0) (pt (iOf wh) (jOf wh) W (-3 + x) (-3 + y) 1) (pt (iOf wh) (jOf wh) W (-3 + x) (-3 + y) 2) = true ∧ qF 720000 (hsvH (pt (iOf wh) (jOf wh) W (-3 + x) (-3 + y) 0) (pt (iOf wh) (jOf wh) W (-3 + x) (-3 + y) 1) (pt (iOf wh) (jOf wh) W (-3 + x) (-3 + y) 2)) = hueF wh (7 * x + y) := by
  refine ⟨?_, fun x y hx hy => ⟨?_, hue_fact h hx hy⟩⟩
  · have hz := List.all_eq_true.mp zeros W
    refine hz (List.mem_map.mpr ⟨(W - 4).toNat, List.mem_range.mpr (by omega), by omega⟩)
  · obtain ⟨hij, ho⟩ := own_of wh
    have hl : -3 ≤ -3 + (x : Int) ∧ -3 + (x : Int) ≤ 3 := by omega
    have hp : -3 ≤ -3 + (y : Int) ∧ -3 + (y : Int) ≤ 3 := by omega
    exact ok_white h1 h2 (pt_near hij hl.1 hl.2 hp.1 hp.2) (pt_near hij hl.1 hl.2 hp.1 hp.2) (pt_near hij hl.1 hl.2 hp.1 hp.2) (ho.imp (fun h => pt_own h.1 h.2) (Or.imp (fun h => pt_own h.1 h.2) fun h => pt_own h.1 h.2))
theorem ij_cases {wh : Nat} : (iOf wh = 0 ∧ jOf wh = 1) ∨ (iOf wh = 1 ∧ jOf wh = 2) ∨ (iOf wh = 2 ∧ jOf wh = 0) ∨ (iOf wh = 1 ∧ jOf wh = 0) ∨ (iOf wh = 2 ∧ jOf wh = 1) ∨ (iOf wh = 0 ∧ jOf wh = 2) := by
  match wh with
  | 0 => decide
  | 1 => decide
  | 2 => decide
  | 3 => decide
  | 4 => decide
  | _ + 5 => exact .inr (.inr (.inr (.inr (.inr ⟨rfl, rfl⟩))))
end Mine
end
section
set_option maxRecDepth 100000
namespace Mine
noncomputable def mkP (i : Nat) : PtV := ⟨0, ((i / 4 : Nat) : Int), ((i % 4 : Nat) : Int), 0, 0⟩
noncomputable def Same (p q : PtV) : Prop := p.x = q.x ∧ p.y = q.y
theorem ok_mk {p : PtV} (h : p.ok) : ∃ i : Nat, i < 16 ∧ Same p (mkP i) := by
  obtain ⟨h1, h2, h3, h4⟩ := h
  refine ⟨(4 * p.x + p.y).toNat, by omega, ?_, ?_⟩
  · show p.x = (((4 * p.x + p.y).toNat / 4 : Nat) : Int); omega
  · show p.y = (((4 * p.x + p.y).toNat % 4 : Nat) : Int); omega
theorem tT_same {f : Nat → Int} {s a b s' a' b' : PtV} (hs : Same s s') (ha : Same a a') (hb : Same b b') : tT f s a b = tT f s' a' b' := by
  obtain ⟨_, sx, sy, _, _⟩ := s; obtain ⟨_, sx', sy', _, _⟩ := s'; obtain ⟨_, ax, ay, _, _⟩ := a; obtain ⟨_, ax', ay', _, _⟩ := a'; obtain ⟨_, bx, y, _, _⟩ := b; obtain ⟨_, bx', y', _, _⟩ := b'
  obtain ⟨h1, h2⟩ := hs; obtain ⟨h3, h4⟩ := ha; obtain ⟨h5, h6⟩ := hb
  cases h1; cases h2; cases h3; cases h4; cases h5; cases h6; rfl
theorem rR_same {s a b s' a' b' : PtV} (hs : Same s s') (ha : Same a a') (hb : Same b b') : rR s a b = rR s' a' b' := by
  obtain ⟨_, sx, sy, _, _⟩ := s; obtain ⟨_, sx', sy', _, _⟩ := s'; obtain ⟨_, ax, ay, _, _⟩ := a; obtain ⟨_, ax', ay', _, _⟩ := a'; obtain ⟨_, bx, y, _, _⟩ := b; obtain ⟨_, bx', y', _, _⟩ := b'
  obtain ⟨h1, h2⟩ := hs; obtain ⟨h3, h4⟩ := ha; obtain ⟨h5, h6⟩ := hb
  cases h1; cases h2; cases h3; cases h4; cases h5; cases h6; rfl
theorem onWay_same {s a b s' a' b' : PtV} (hs : Same s s') (ha : Same a a') (hb : Same b b') : onWay s a b = onWay s' a' b' := by
  obtain ⟨_, sx, sy, _, _⟩ := s; obtain ⟨_, sx', sy', _, _⟩ := s'; obtain ⟨_, ax, ay, _, _⟩ := a; obtain ⟨_, ax', ay', _, _⟩ := a'; obtain ⟨_, bx, y, _, _⟩ := b; obtain ⟨_, bx', y', _, _⟩ := b'
  obtain ⟨h1, h2⟩ := hs; obtain ⟨h3, h4⟩ := ha; obtain ⟨h5, h6⟩ := hb
  cases h1; cases h2; cases h3; cases h4; cases h5; cases h6; rfl
theorem cr_same {a b a' b' : PtV} (ha : Same a a') (hb : Same b b') : cr a b = cr a' b' := by
  unfold cr; rw [ha.1, ha.2, hb.1, hb.2]
/-- the hue lifted, cut behind the ray -/
noncomputable def lift (v : Int) : Int := if v = 0 then 360000 else v
noncomputable def phi (s p : PtV) : Int := lift (hueAt (hueF 0) s p)
theorem hueAt_same {f : Nat → Int} {s a s' a' : PtV} (hs : Same s s') (ha : Same a a') : hueAt f s a = hueAt f s' a' := by
  unfold hueAt; rw [hs.1, hs.2, ha.1, ha.2]
noncomputable def chkSpot (s a b : PtV) : Bool := onWay s a b || decide (tT (hueF 0) s a b = 360000 * rR s a b + (phi s b - phi s a))
noncomputable def G0 (a b : PtV) : Int := ((List.range 16).map fun i => tT (hueF 0) (mkP i) a b).sum
noncomputable def psi (b : PtV) : Int := G0 (mkP 0) b - 180000 * cr (mkP 0) b
noncomputable def spotRow (s : Nat) : Bool := (List.range 16).all fun a => (List.range 16).all fun b => chkSpot (mkP s) (mkP a) (mkP b)
theorem spot_0 : spotRow 0 = true := by decide +kernel
theorem spot_1 : spotRow 1 = true := by decide +kernel
theorem spot_2 : spotRow 2 = true := by decide +kernel
theorem spot_3 : spotRow 3 = true := by decide +kernel
theorem spot_4 : spotRow 4 = true := by decide +kernel
theorem spot_5 : spotRow 5 = true := by decide +kernel
theorem spot_6 : spotRow 6 = true := by decide +kernel
theorem spot_7 : spotRow 7 = true := by decide +kernel
theorem spot_8 : spotRow 8 = true := by decide +kernel
theorem spot_9 : spotRow 9 = true := by decide +kernel
theorem spot_10 : spotRow 10 = true := by decide +kernel
theorem spot_11 : spotRow 11 = true := by decide +kernel
theorem spot_12 : spotRow 12 = true := by decide +kernel
theorem spot_13 : spotRow 13 = true := by decide +kernel
theorem spot_14 : spotRow 14 = true := by decide +kernel
theorem spot_15 : spotRow 15 = true := by decide +kernel
theorem spot_rows {s : Nat} (h : s < 16) : spotRow s = true := by
  rcases lt_cases (n := 15) h with h | rfl
  case inr => exact spot_15
  rcases lt_cases (n := 14) h with h | rfl
  case inr => exact spot_14
  rcases lt_cases (n := 13) h with h | rfl
  case inr => exact spot_13
  rcases lt_cases (n := 12) h with h | rfl
  case inr => exact spot_12
  rcases lt_cases (n := 11) h with h | rfl
  case inr => exact spot_11
  rcases lt_cases (n := 10) h with h | rfl
  case inr => exact spot_10
  rcases lt_cases (n := 9) h with h | rfl
  case inr => exact spot_9
  rcases lt_cases (n := 8) h with h | rfl
  case inr => exact spot_8
  rcases lt_cases (n := 7) h with h | rfl
  case inr => exact spot_7
  rcases lt_cases (n := 6) h with h | rfl
  case inr => exact spot_6
  rcases lt_cases (n := 5) h with h | rfl
  case inr => exact spot_5
  rcases lt_cases (n := 4) h with h | rfl
  case inr => exact spot_4
  rcases lt_cases (n := 3) h with h | rfl
  case inr => exact spot_3
  rcases lt_cases (n := 2) h with h | rfl
  case inr => exact spot_2
  rcases lt_cases (n := 1) h with h | rfl
  case inr => exact spot_1
  rcases lt_cases (n := 0) h with h | rfl
  case inr => exact spot_0
  exact absurd h (Nat.not_lt_zero _)
theorem chk_sums : ((List.range 16).all fun a => (List.range 16).all fun b => decide (G0 (mkP a) (mkP b) = 180000 * cr (mkP a) (mkP b) + (psi (mkP b) - psi (mkP a)))) = true := by decide +kernel
theorem all_range {n : Nat} {P : Nat → Bool} (h : (List.range n).all P = true) {i : Nat} (hi : i < n) : P i = true := List.all_eq_true.mp h i (List.mem_range.mpr hi)
theorem spot0 {s a b : PtV} (hs : s.ok) (ha : a.ok) (hb : b.ok) (hw : onWay s a b = false) : tT (hueF 0) s a b = 360000 * rR s a b + (phi s b - phi s a) := by
  obtain ⟨i, hi, hs⟩ := ok_mk hs
  obtain ⟨j, hj, ha⟩ := ok_mk ha
  obtain ⟨k, hk, hb⟩ := ok_mk hb
  have h := all_range (all_range (spot_rows hi) hj) hk
  unfold chkSpot at h
  rw [← onWay_same hs ha hb, hw, Bool.false_or] at h
  have h := of_decide_eq_true h
  rw [← tT_same hs ha hb, ← rR_same hs ha hb] at h
  unfold phi at h ⊢
  rw [hueAt_same hs ha, hueAt_same hs hb]
  exact h
theorem G0_same {a b a' b' : PtV} (ha : Same a a') (hb : Same b b') : G0 a b = G0 a' b' := by
  unfold G0
  congr 1
  exact List.map_congr_left fun i _ => tT_same ⟨rfl, rfl⟩ ha hb
theorem sum0 {a b : PtV} (ha : a.ok) (hb : b.ok) : G0 a b = 180000 * cr a b + (psi b - psi a) := by
  obtain ⟨j, hj, ha⟩ := ok_mk ha
  obtain ⟨k, hk, hb⟩ := ok_mk hb
  have h := of_decide_eq_true (all_range (all_range chk_sums hj) hk)
  have e1 : psi a = psi (mkP j) := by unfold psi; rw [G0_same ⟨rfl, rfl⟩ ha, cr_same ⟨rfl, rfl⟩ ha]
  have e2 : psi b = psi (mkP k) := by unfold psi; rw [G0_same ⟨rfl, rfl⟩ hb, cr_same ⟨rfl, rfl⟩ hb]
  rw [G0_same ha hb, cr_same ha hb, e1, e2]
  exact h
/-! the hues of the six pairs of colours -/
noncomputable def shiftOf : Nat → Int | 0 => 0 | 1 => 120000 | 2 => 240000 | 3 => 120000 | 4 => 240000 | _ => 0
noncomputable def signOf : Nat → Int | 0 => 1 | 1 => 1 | 2 => 1 | _ => -1
theorem chk_hues : ((List.range 6).all fun w => (List.range 49).all fun t => t == 24 || decide ((hueF w t - signOf w * hueF 0 t - shiftOf w) % 360000 = 0)) = true := by decide +kernel
theorem hue_w {w t : Nat} (hw : w < 6) (ht : t < 49) (h24 : t ≠ 24) : ∃ k : Int, hueF w t = signOf w * hueF 0 t + shiftOf w + 360000 * k := by
  have h := all_range (all_range chk_hues hw) ht
  have e : (t == 24) = false := by simpa using h24
  rw [e, Bool.false_or] at h
  have h := of_decide_eq_true h
  exact ⟨(hueF w t - signOf w * hueF 0 t - shiftOf w) / 360000, by omega⟩
theorem idx_of {s p : PtV} (hs : s.ok) (hp : p.ok) (hn : s.at p = false) : (7 * (p.x - s.x) + p.y - s.y + 24).toNat < 49 ∧ (7 * (p.x - s.x) + p.y - s.y + 24).toNat ≠ 24 := by
  obtain ⟨h1, h2, h3, h4⟩ := hs
  obtain ⟨h5, h6, h7, h8⟩ := hp
  have hn : ¬ (s.x = p.x ∧ s.y = p.y) := by simpa [PtV.at] using hn
  omega
theorem turn_plus {a b a' b' c k l : Int} (ha : a' = 1 * a + c + 360000 * k) (hb : b' = 1 * b + c + 360000 * l) : (b' - a' + 180000).fmod 360000 - 180000 = (b - a + 180000).fmod 360000 - 180000 := by
  rw [Int.fmod_eq_emod_of_nonneg _ (by decide), Int.fmod_eq_emod_of_nonneg _ (by decide)]; omega
theorem turn_minus {a b a' b' c k l : Int} (ha : a' = -1 * a + c + 360000 * k) (hb : b' = -1 * b + c + 360000 * l) : ((b' - a' + 180000).fmod 360000 - 180000 = -180000 ∧ (b - a + 180000).fmod 360000 - 180000 = -180000) ∨ ((b' - a' + 180000).fmod 360000 - 180000 ≠ -180000 ∧ (b - a + 180000).fmod 360000 - 180000 ≠ -180000 ∧ (b' - a' + 180000).fmod 360000 - 180000 = -((b - a + 180000).fmod 360000 - 180000)) := by
  rw [Int.fmod_eq_emod_of_nonneg _ (by decide), Int.fmod_eq_emod_of_nonneg _ (by decide)]; omega
theorem tT_w {w : Nat} (hw : w < 6) {s a b : PtV} (hs : s.ok) (ha : a.ok) (hb : b.ok) : tT (hueF w) s a b = signOf w * tT (hueF 0) s a b := by
  by_cases h1 : s.at a = true
  · unfold tT; rw [if_pos h1, if_pos h1]; split <;> split <;> simp
  by_cases h2 : s.at b = true
  · unfold tT; rw [if_neg h1, if_neg h1, if_pos h2, if_pos h2]; split <;> split <;> simp
  unfold tT
  rw [if_neg h1, if_neg h1, if_neg h2, if_neg h2]
  have ia := idx_of hs ha (by simpa using h1)
  have ib := idx_of hs hb (by simpa using h2)
  obtain ⟨k, ea⟩ := hue_w hw ia.1 ia.2
  obtain ⟨l, eb⟩ := hue_w hw ib.1 ib.2
  unfold turnOf hueAt
  have hsg : signOf w = 1 ∨ signOf w = -1 := by
    unfold signOf; split <;> simp
  rcases hsg with e | e
  · rw [e] at ea eb ⊢
    rw [turn_plus ea eb, Int.one_mul]
  · rw [e] at ea eb ⊢
    rcases turn_minus ea eb with ⟨m1, m2⟩ | ⟨m1, m2, m3⟩
    · rw [if_pos m1, if_pos m2]; rfl
    · rw [if_neg m1, if_neg m2, m3, Int.neg_mul, Int.one_mul]
/-! the closed walk -/
noncomputable def cyc (D : Nat → Int) (n : Nat) : Nat → Int
  | 0 => 0
  | i + 1 => cyc D n i + (D i - D (prevI n i))
theorem cyc_eq (D : Nat → Int) (n : Nat) : ∀ k, cyc D n (k + 1) = D k - D (n - 1)
  | 0 => by simp [cyc, prevI]
  | k + 1 => by
    show cyc D n (k + 1) + (D (k + 1) - D (prevI n (k + 1))) = _
    rw [cyc_eq D n k]
    have e : prevI n (k + 1) = k := by simp [prevI]
    rw [e]; omega
theorem cyc_zero (D : Nat → Int) (n : Nat) : cyc D n n = 0 := by
  cases n with
  | zero => rfl
  | succ n => rw [cyc_eq]; simp
noncomputable def atOr (φ : PtV → Int) (pts : List PtV) (i : Nat) : Int := match pts[i]? with | some p => φ p | none => 0
theorem walk_eq {g h : PtV → PtV → Int} {c : Int} {φ : PtV → Int} {pts : List PtV} (hstep : ∀ i a b, i < pts.length → pts[prevI pts.length i]? = some a → pts[i]? = some b → g a b = c * h a b + (φ b - φ a)) : walkSum g pts pts.length = c * walkSum h pts pts.length := by
  have key : ∀ k, k ≤ pts.length → walkSum g pts k = c * walkSum h pts k + cyc (atOr φ pts) pts.length k := by
    intro k
    induction k with
    | zero => intro _; simp [walkSum, cyc]
    | succ k ih =>
      intro hk
      obtain ⟨a, ha⟩ : ∃ a, pts[prevI pts.length k]? = some a := ⟨_, List.getElem?_eq_getElem (prevI_lt hk)⟩
      obtain ⟨b, hb⟩ : ∃ b, pts[k]? = some b := ⟨_, List.getElem?_eq_getElem hk⟩
      simp only [walkSum, cyc]
      rw [ih (by omega), stepOf_eq ha hb, stepOf_eq ha hb, hstep k a b hk ha hb]
      have e1 : atOr φ pts k = φ b := by unfold atOr; rw [hb]
      have e2 : atOr φ pts (prevI pts.length k) = φ a := by unfold atOr; rw [ha]
      rw [e1, e2, Int.mul_add]; omega
  have := key pts.length (Nat.le_refl _)
  rw [cyc_zero, Int.add_zero] at this
  exact this
theorem sum_mul (c : Int) (F : PtV → Int) : ∀ l : List PtV, (l.map fun p => c * F p).sum = c * (l.map F).sum
  | [] => by simp
  | p :: r => by simp only [List.map_cons, List.sum_cons]; rw [sum_mul c F r, Int.mul_add]
theorem sum_walks (T : PtV → PtV → PtV → Int) (spts pts : List PtV) : ∀ n, (spts.map fun sp => walkSum (T sp) pts n).sum = walkSum (fun a b => (spts.map fun sp => T sp a b).sum) pts n
  | 0 => by
    show (spts.map fun _ => (0 : Int)).sum = 0
    induction spts with
    | nil => rfl
    | cons p r ih => simp only [List.map_cons, List.sum_cons]; rw [ih]; rfl
  | n + 1 => by
    show (spts.map fun sp => walkSum (T sp) pts n + stepOf (T sp) pts n).sum = walkSum (fun a b => (spts.map fun sp => T sp a b).sum) pts n + stepOf (fun a b => (spts.map fun sp => T sp a b).sum) pts n
    rw [← sum_walks T spts pts n]
    have e : stepOf (fun a b => (spts.map fun sp => T sp a b).sum) pts n = (spts.map fun sp => stepOf (T sp) pts n).sum := by
      unfold stepOf
      split
      · rfl
      · clear sum_walks
        induction spts with
        | nil => rfl
        | cons p r ih => simp only [List.map_cons, List.sum_cons] at ih ⊢; rw [← ih]; rfl
    rw [e]
    clear e sum_walks
    induction spts with
    | nil => rfl
    | cons p r ih => simp only [List.map_cons, List.sum_cons]; rw [ih]; omega
theorem map_spots {F : PtV → Int} (hF : ∀ p q, Same p q → F p = F q) {spts : List PtV} (h16 : spts.length = 16) (hxy : ∀ (i : Nat) p, spts[i]? = some p → p.x = ((i / 4 : Nat) : Int) ∧ p.y = ((i % 4 : Nat) : Int)) : spts.map F = (List.range 16).map fun i => F (mkP i) := by
  refine List.ext_getElem? fun i => ?_
  rw [List.getElem?_map, List.getElem?_map]
  by_cases hi : i < 16
  · rw [List.getElem?_range hi, List.getElem?_eq_getElem (by omega)]
    simp only [Option.map_some]
    exact congrArg some (hF _ _ (hxy i _ (List.getElem?_eq_getElem (by omega))))
  · rw [List.getElem?_eq_none (by omega), List.getElem?_eq_none (by simp; omega)]; rfl
noncomputable def wayOf (wh : Int) : Int := 1 - 2 * wh.fdiv 3
theorem way_sign {wh : Int} (h0 : 0 ≤ wh) (h6 : wh < 6) : wayOf wh = signOf wh.toNat := by
  obtain ⟨n, rfl⟩ : ∃ n : Nat, wh = n := ⟨wh.toNat, by omega⟩
  have hn : n < 6 := by omega
  clear h0 h6
  rcases lt_cases (n := 5) hn with hn | rfl
  case inr => rfl
  rcases lt_cases (n := 4) hn with hn | rfl
  case inr => rfl
  rcases lt_cases (n := 3) hn with hn | rfl
  case inr => rfl
  rcases lt_cases (n := 2) hn with hn | rfl
  case inr => rfl
  rcases lt_cases (n := 1) hn with hn | rfl
  case inr => rfl
  rcases lt_cases (n := 0) hn with hn | rfl
  case inr => rfl
  exact absurd hn (Nat.not_lt_zero _)
theorem law_spot {wh : Int} (h0 : 0 ≤ wh) (h6 : wh < 6) {pts : List PtV} (hp : ∀ p ∈ pts, p.ok) {sp : PtV} (hs : sp.ok) (hoff : ∀ i, i < pts.length → offStep sp pts i = true) :
    walkSum (tT (hueF wh.toNat) sp) pts pts.length = 360000 * wayOf wh * walkSum (rR sp) pts pts.length := by
  refine walk_eq (φ := fun p => wayOf wh * phi sp p) fun i a b hi ha hb => ?_
  have ho := hoff i hi
  rw [offStep_eq ha hb] at ho
  have oa := hp a (List.mem_of_getElem? ha)
  have ob := hp b (List.mem_of_getElem? hb)
  rw [tT_w (by omega) hs oa ob, spot0 hs oa ob (by simpa using ho), ← way_sign h0 h6]
  generalize wayOf wh = w
  generalize rR sp a b = r
  generalize phi sp b = u
  generalize phi sp a = v
  rw [Int.mul_add, Int.mul_sub, ← Int.mul_assoc, Int.mul_comm w 360000]
theorem law_sum {wh : Int} (h0 : 0 ≤ wh) (h6 : wh < 6) {pts spts : List PtV} (hp : ∀ p ∈ pts, p.ok) (hs : ∀ p ∈ spts, p.ok) (h16 : spts.length = 16) (hxy : ∀ (i : Nat) p, spts[i]? = some p → p.x = ((i / 4 : Nat) : Int) ∧ p.y = ((i % 4 : Nat) : Int)) :
    (spts.map fun sp => walkSum (tT (hueF wh.toNat) sp) pts pts.length).sum = 180000 * wayOf wh * walkSum cr pts pts.length := by
  rw [sum_walks]
  refine walk_eq (φ := fun p => wayOf wh * psi p) fun i a b hi ha hb => ?_
  have oa := hp a (List.mem_of_getElem? ha)
  have ob := hp b (List.mem_of_getElem? hb)
  have e : (spts.map fun sp => tT (hueF wh.toNat) sp a b) = spts.map fun sp => wayOf wh * tT (hueF 0) sp a b :=
    List.map_congr_left fun sp hsp => by rw [tT_w (by omega) (hs sp hsp) oa ob, way_sign h0 h6]
  show (spts.map fun sp => tT (hueF wh.toNat) sp a b).sum = _
  rw [e, sum_mul, map_spots (F := fun sp => tT (hueF 0) sp a b) (fun p q h => tT_same h ⟨rfl, rfl⟩ ⟨rfl, rfl⟩) h16 hxy]
  show wayOf wh * G0 a b = _
  rw [sum0 oa ob]
  generalize wayOf wh = w
  generalize cr a b = r
  generalize psi b = u
  generalize psi a = v
  rw [Int.mul_add, Int.mul_sub, ← Int.mul_assoc, Int.mul_comm w 180000]
end Mine
end
section
set_option maxRecDepth 100000
set_option linter.unusedSimpArgs false
namespace Mine
section
variable {prog : Program} {w : World} {A : Around} {E : Value → Shared → Prop} {s : Shared} {env : Env} {h₀ : Heap} {body : List Stmt} {Q : Flow → Shared → Prop}
theorem tup_rest {σ : Type} {target : Expr} {l : Addr} {lo : Obj} {vs : List Value} (names : σ → List (Str × Value)) (Led : σ → List (Addr × Obj)) (Inv : σ → Prop) (adr : List Addr) (hadr : ∀ z, (Led z).map (·.1) = adr) (I : Addr) (hI : ∀ b ∈ adr, b < I) (hm : ∀ z, (l, lo) ∈ Led z)
    (turn : ∀ v z u h tk oi, v ∈ vs → Inv z → Fr h₀ env.locals h (ov (names z) u) → News h₀ env.locals h ((I, oi) :: Led z) →
      wpAny (model prog w) A (assign target env v) (fun _ s₂ => wpAny (model prog w) A (execs body env) (TEnd (EnPost h₀ env.locals names Led Inv [(I, oi)] { s with heap := h, toks := tk } Q)) E s₂) E { s with heap := h, toks := tk })
    (done : ∀ z u h tk, Inv z → Fr h₀ env.locals h (ov (names z) u) → News h₀ env.locals h (Led z) → Q .next { s with heap := h, toks := tk }) :
    ∀ (ws : List Value) (m : Str → Option Value) (z : σ), (∀ v ∈ ws, v ∈ vs) → Agree m (names z) → Inv z → ItemsRest prog w A E h₀ env target body Q s [(I, "tuple_iterator")] [(l, lo)] (ws.map .val) m (Led z)
  | [], m, z, _, ha, hz => fun h tk F N => done z m h tk hz (ha.ov ▸ F) N
  | v :: ws, m, z, hsub, ha, hz => by
    refine ItemsRest.val ?_
    intro h tk F oi hoi N
    have F' : Fr h₀ env.locals h (ov (names z) m) := ha.ov ▸ F
    refine wpAny_mono (turn v z m h tk oi (hsub v List.mem_cons_self) hz F' N) (fun _ s₂ h₂ => wpAny_mono h₂ (fun f s₃ p => ?_) fun _ _ e => e) fun _ _ e => e
    have fin : (∃ h' tk' m' news' z', s₃ = { s with heap := h', toks := tk' } ∧ Fr h₀ env.locals h' m' ∧ News h₀ env.locals h' news' ∧ Agree m' (names z') ∧ (∀ p ∈ [(I, oi)], p ∈ news') ∧ (∀ p ∈ Led z', p ∈ news') ∧ Inv z') →
        UnrEndW h₀ env.locals { s with heap := h, toks := tk } [(I, oi)] (fun m' n' => SubL [(l, lo)] n' ∧ ItemsRest prog w A E h₀ env target body Q s [(I, "tuple_iterator")] [(l, lo)] (ws.map .val) m' n') s₃ := by
      rintro ⟨h', tk', m', news', z', e3, F3, N3, ha3, hits, hled, hz3⟩
      refine ⟨h', tk', m', Led z', e3, F3, fun p hp => ?_, fun p hp q hq => ?_, ⟨hm z', trivial⟩, tup_rest names Led Inv adr hadr I hI hm turn done ws m' z' (fun v hv => hsub v (List.mem_cons_of_mem _ hv)) ha3 hz3⟩
      · rcases List.mem_append.mp hp with hp | hp
        · exact N3 p (hits p hp)
        · exact N3 p (hled p hp)
      · have h1 : p.1 < I := hI p.1 (by rw [← hadr z']; exact List.mem_map_of_mem hp)
        rw [List.mem_singleton.mp hq]; exact Nat.ne_of_lt h1
    cases f with
    | ret v => exact p
    | brk => exact p
    | next => exact fin p
    | cont => exact fin p
theorem tup_inv {σ : Type} {target : Expr} {l : Addr} {lo : Obj} {vs : List Value} {n : Nat} {m₀ : Str → Option Value} (names : σ → List (Str × Value)) (Led : σ → List (Addr × Obj)) (Inv : σ → Prop) (x₀ : σ) (adr : List Addr) (hadr : ∀ z, (Led z).map (·.1) = adr) (hm : ∀ z, (l, lo) ∈ Led z)
    (hh : A.handled = none) (hc : lo.cls = .type "tuple") (hd : lo.data = .seq vs.toArray n) (F : Fr h₀ env.locals s.heap m₀) (ha : Agree m₀ (names x₀)) (N : News h₀ env.locals s.heap (Led x₀)) (hi : Inv x₀)
    (turn : ∀ v z u h tk I oi, (∀ b ∈ adr, b < I) → v ∈ vs → Inv z → Fr h₀ env.locals h (ov (names z) u) → News h₀ env.locals h ((I, oi) :: Led z) →
      wpAny (model prog w) A (assign target env v) (fun _ s₂ => wpAny (model prog w) A (execs body env) (TEnd (EnPost h₀ env.locals names Led Inv [(I, oi)] { s with heap := h, toks := tk } Q)) E s₂) E { s with heap := h, toks := tk })
    (done : ∀ z u h tk, Inv z → Fr h₀ env.locals h (ov (names z) u) → News h₀ env.locals h (Led z) → Q .next { s with heap := h, toks := tk }) :
    wpAny (model prog w) A (pyIter (.ref l)) (fun it s₂ => TurnsAt prog w A h₀ env target body Q E it s₂) E s := by
  refine iter_tupTurns hh F N (hm x₀) hc hd fun I hI => ?_
  have hI' : ∀ b ∈ adr, b < I := fun b hb => by
    rw [← hadr x₀] at hb
    obtain ⟨p, hp, rfl⟩ := List.mem_map.mp hb
    exact hI p hp
  exact tup_rest names Led Inv adr hadr I hI' hm (fun v z u h tk oi h1 h2 h3 h4 => turn v z u h tk I oi hI' h1 h2 h3 h4) done vs m₀ x₀ (fun v hv => hv) ha hi
end
section
variable {prog : Program} {w : World} {A : Around} {E : Value → Shared → Prop} {s : Shared} {env : Env} {h₀ : Heap} {body : List Stmt} {Q : Flow → Shared → Prop}
noncomputable def loopNames (way : Int) (tw : Tok) (Ds Dr Dc : Addr) : List (Str × Value) := [("way", .int way tw), ("spots", .ref Ds), ("rounds", .ref Dr), ("crosswise", .ref Dc), ("sure", .bool true)]
theorem allLt_of {I : Addr} : ∀ {V : List (Addr × Obj)}, (∀ b ∈ V.map (·.1), b < I) → AllLt I V
  | [], _ => trivial
  | p :: r, h => ⟨h _ (by simp), allLt_of fun b hb => h b (by simp only [List.map_cons, List.mem_cons]; exact .inr hb)⟩
theorem seen_loop {target : Expr} {T c1 c2 Ds Dr Dc d1 d2 : Addr} {oc1 oc2 : Obj} {k : Nat} {way : Int} {tw : Tok} {V : List (Addr × Obj)} {m₀ : Str → Option Value}
    (hh : A.handled = none) (F : Fr h₀ env.locals s.heap m₀) (N : News h₀ env.locals s.heap ((c2, oc2) :: (c1, oc1) :: V)) (hT : (T, ({ cls := .type "tuple", data := .seq #[.ref d1, .ref d2] k } : Obj)) ∈ V)
    (ha : Agree m₀ (loopNames way tw Ds Dr Dc)) (h0 : ∃ v, oc2.data = .cell v)
    (turn : ∀ d v2 oc u h tk I oi, ((@LT.lt Nat _ c2 I) ∧ (@LT.lt Nat _ c1 I) ∧ AllLt I V) → (d = d1 ∨ d = d2) → oc.data = .cell v2 → Fr h₀ env.locals h (ov (loopNames way tw Ds Dr Dc) u) → News h₀ env.locals h ((I, oi) :: (c2, oc) :: (c1, oc1) :: V) →
      wpAny (model prog w) A (assign target env (.ref d)) (fun _ s₂ => wpAny (model prog w) A (execs body env) (TEnd (EnPost h₀ env.locals (fun _ : Obj => loopNames way tw Ds Dr Dc) (fun z => (c2, z) :: (c1, oc1) :: V) (fun z => ∃ v, z.data = .cell v) [(I, oi)] { s with heap := h, toks := tk } Q)) E s₂) E { s with heap := h, toks := tk })
    (done : ∀ oc u h tk, Fr h₀ env.locals h (ov (loopNames way tw Ds Dr Dc) u) → News h₀ env.locals h ((c2, oc) :: (c1, oc1) :: V) → Q .next { s with heap := h, toks := tk }) :
    wpAny (model prog w) A (pyIter (.ref T)) (fun it s₂ => TurnsAt prog w A h₀ env target body Q E it s₂) E s := by
  refine tup_inv (σ := Obj) (vs := [.ref d1, .ref d2]) (n := k) (fun _ => loopNames way tw Ds Dr Dc) (fun z => (c2, z) :: (c1, oc1) :: V) (fun z => ∃ v, z.data = .cell v) oc2 (c2 :: c1 :: V.map (·.1)) (fun _ => rfl) (fun _ => List.mem_cons_of_mem _ (List.mem_cons_of_mem _ hT)) hh rfl rfl F ha N h0 ?_ ?_
  · intro v z u h tk I oi hI hv hz F1 N1
    obtain ⟨v2, hz⟩ := hz
    have hI3 : (@LT.lt Nat _ c2 I) ∧ (@LT.lt Nat _ c1 I) ∧ AllLt I V := ⟨hI _ (by simp), hI _ (by simp), allLt_of fun b hb => hI b (List.mem_cons_of_mem _ (List.mem_cons_of_mem _ hb))⟩
    rcases List.mem_cons.mp hv with rfl | hv
    · exact turn d1 v2 z u h tk I oi hI3 (.inl rfl) hz F1 N1
    · rw [List.mem_singleton.mp hv]
      exact turn d2 v2 z u h tk I oi hI3 (.inr rfl) hz F1 N1
  · intro z u h tk _ F1 N1
    exact done z u h tk F1 N1
end
section
variable {prog : Program} {w : World} {A : Around} {E : Value → Shared → Prop} {s : Shared} {h₀ : Heap} {L : Addr} {m : Str → Option Value} {news : List (Addr × Obj)}
theorem sum_lst {l : Addr} {vs : List Value} {ns : List Int} {Q : Value → Shared → Prop} (hh : A.handled = none) (F : Fr h₀ L s.heap m) (N : News h₀ L s.heap news) (hm : (l, LCg.lst vs) ∈ news) (hi : IntsAre vs ns)
    (h : ∀ h' tk t', Fr h₀ L h' m → News h₀ L h' news → Q (.int ns.sum t') { s with heap := h', toks := tk }) :
    wpAny (model prog w) A (call (.builtin "sum") [.ref l]) Q E s := sumK hh F N ⟨_, (N _ hm).1, rfl, _, rfl⟩ hi h
end
theorem mem6 {α : Type} {a b c d e f q : α} {V : List α} (h : q ∈ V) : q ∈ a :: b :: c :: d :: e :: f :: V := List.mem_cons_of_mem _ (List.mem_cons_of_mem _ (List.mem_cons_of_mem _ (List.mem_cons_of_mem _ (List.mem_cons_of_mem _ (List.mem_cons_of_mem _ h)))))
/-- the ledger of the law behind its sums crosswise -/
theorem lawLed3 {g h : Heap} {L T Dc Dr c1 c2 : Addr} {oT oc orr oc1 oc2 : Obj} {S : List (Addr × Obj)}
    (N : News g L h ((T, oT) :: (Dc, oc) :: (Dr, orr) :: (c2, oc2) :: (c1, oc1) :: S)) (o1 : LCg.Off1 Dr ([] ++ (c2, oc2) :: (c1, oc1) :: S)) (o2 : LCg.Off1 Dc ([] ++ (Dr, orr) :: (c2, oc2) :: (c1, oc1) :: S)) (hc2 : c2 < T) (hc1 : c1 < T) (hS1 : ∀ p ∈ S, p.1 ≠ c1) (hS2 : ∀ p ∈ S, p.1 ≠ c2) :
    ∃ R, News g L h ((c2, oc2) :: (c1, oc1) :: R) ∧ (∀ p ∈ R, p.1 ≠ c1) ∧ (∀ p ∈ R, p.1 ≠ c2) ∧ (T, oT) ∈ R ∧ (Dc, oc) ∈ R ∧ (Dr, orr) ∈ R ∧ ∀ p ∈ S, p ∈ R := by
  have h1 := off1_mem o1
  have h2 := off1_mem o2
  have key : ∀ p ∈ (T, oT) :: (Dc, oc) :: (Dr, orr) :: S, p.1 ≠ c1 ∧ p.1 ≠ c2 := by
    intro p hp
    rcases List.mem_cons.mp hp with rfl | hp
    · exact ⟨Nat.ne_of_gt hc1, Nat.ne_of_gt hc2⟩
    rcases List.mem_cons.mp hp with rfl | hp
    · exact ⟨(h2 (c1, oc1) (by simp)).symm, (h2 (c2, oc2) (by simp)).symm⟩
    rcases List.mem_cons.mp hp with rfl | hp
    · exact ⟨(h1 (c1, oc1) (by simp)).symm, (h1 (c2, oc2) (by simp)).symm⟩
    · exact ⟨hS1 p hp, hS2 p hp⟩
  refine ⟨(T, oT) :: (Dc, oc) :: (Dr, orr) :: S, fun p hp => N p ?_, fun p hp => (key p hp).1, fun p hp => (key p hp).2, by simp, by simp, by simp, fun p hp => by simp [hp]⟩
  simp only [List.mem_cons] at hp ⊢
  rcases hp with h | h | h | h | h | h
  · exact .inr (.inr (.inr (.inl h)))
  · exact .inr (.inr (.inr (.inr (.inl h))))
  · exact .inl h
  · exact .inr (.inl h)
  · exact .inr (.inr (.inl h))
  · exact .inr (.inr (.inr (.inr (.inr h))))
noncomputable def TurnsJ (f : Nat → Int) (pts spts : List PtV) (i : Nat) (ys : List Value) (nw : List (Addr × Obj)) : Prop := nw = [] ∧ IntsAre ys ((spts.take i).map fun sp => walkSum (tT f sp) pts pts.length)
theorem TurnsJ.zero {f : Nat → Int} {pts spts : List PtV} : TurnsJ f pts spts 0 [] [] := ⟨rfl, .nil⟩
theorem TurnsJ.step {f : Nat → Int} {pts spts : List PtV} {i : Nat} {ys : List Value} {p : PtV} {t : Tok} (h : IntsAre ys ((spts.take i).map fun sp => walkSum (tT f sp) pts pts.length)) (hp : spts[i]? = some p) : TurnsJ f pts spts (i + 1) (ys ++ [.int (walkSum (tT f p) pts pts.length) t]) [] := by
  refine ⟨rfl, ?_⟩
  rw [List.take_add_one, hp]
  simpa using IntsAre.append h (.cons _ _ .nil)
end Mine
end
section
set_option maxRecDepth 100000
namespace Mine
theorem stepOf_bound {g : PtV → PtV → Int} {pts : List PtV} {M : Int} (h0 : 0 ≤ M) (hg : ∀ a ∈ pts, ∀ b ∈ pts, -M ≤ g a b ∧ g a b ≤ M) (i : Nat) : -M ≤ stepOf g pts i ∧ stepOf g pts i ≤ M := by
  unfold stepOf
  split
  · exact hg _ (List.mem_of_getElem? (by assumption)) _ (List.mem_of_getElem? (by assumption))
  · omega
theorem walk_bound {g : PtV → PtV → Int} {pts : List PtV} {M : Int} (h0 : 0 ≤ M) (hg : ∀ a ∈ pts, ∀ b ∈ pts, -M ≤ g a b ∧ g a b ≤ M) : ∀ n : Nat, -(M * n) ≤ walkSum g pts n ∧ walkSum g pts n ≤ M * n
  | 0 => by simp [walkSum]
  | n + 1 => by
    have h1 := walk_bound h0 hg n
    have h2 := stepOf_bound h0 hg n
    have e : M * ((n + 1 : Nat) : Int) = M * (n : Int) + M := by rw [Int.natCast_add, Int.mul_add]; simp
    rw [e]
    simp only [walkSum]
    omega
theorem rounds_bound {pts : List PtV} {sp : PtV} (h : pts.length ≤ 5) : -5 ≤ walkSum (rR sp) pts pts.length ∧ walkSum (rR sp) pts pts.length ≤ 5 := by
  have := walk_bound (g := rR sp) (pts := pts) (M := 1) (by decide) (fun a _ b _ => by unfold rR; split <;> split <;> omega) pts.length
  omega
theorem small_mul {a b : Int} (ha : 0 ≤ a) (ha' : a ≤ 3) (hb : 0 ≤ b) (hb' : b ≤ 3) : 0 ≤ a * b ∧ a * b ≤ 9 := by
  have h : a = 0 ∨ a = 1 ∨ a = 2 ∨ a = 3 := by omega
  rcases h with rfl | rfl | rfl | rfl <;> omega
theorem cross_bound {pts : List PtV} (hp : ∀ p ∈ pts, p.ok) (h : pts.length ≤ 5) : -45 ≤ walkSum cr pts pts.length ∧ walkSum cr pts pts.length ≤ 45 := by
  have := walk_bound (g := cr) (pts := pts) (M := 9) (by decide) (fun a ha b hb => by
    obtain ⟨a1, a2, a3, a4⟩ := hp a ha
    obtain ⟨b1, b2, b3, b4⟩ := hp b hb
    have m1 := small_mul a1 a2 b3 b4
    have m2 := small_mul b1 b2 a3 a4
    unfold cr; omega) pts.length
  omega
theorem wayOf_bound {wh : Int} (h0 : 0 ≤ wh) (h6 : wh < 6) : -1 ≤ wayOf wh ∧ wayOf wh ≤ 1 := by
  unfold wayOf
  rw [Int.fdiv_eq_ediv_of_nonneg _ (by decide)]; omega
end Mine
end
section
namespace Mine
set_option maxRecDepth 100000 in
set_option maxHeartbeats 8000000 in
theorem law_try : PySem.Challenge.rw_xh0001_01.Holds := hd (by
  k_with_none
  k_with "call ref" => (k_here; (with_reducible show wpAny _ _ (call (Value.ref 56) [Value.ref _]) _ _ _); k_dflt (refine' cells_spec ?k1 ?k2 ?k3 ?k4 ?k5 ?kK ?kd ?ku ?hl ?hi ?hn ?_; (case k1 => k_asm); (case k2 => k_asm); (case k3 => k_asm); (case k4 => k_asm); (case k5 => k_asm); (case kK => first | exact rfl | assumption); (case kd => ktr_room); (case ku => ktr_units); (case hl => assumption); (case hi => assumption); (case hn => omega)); intro D9 vs9 us9 n9 h9 tk9 hi9 hl9 l9 F9 N9; (try k_lt l9); (try dsimp only); (try k_fold))
  k_with "call ref" => (k_here; (with_reducible show wpAny _ _ (call (Value.ref 61) _) _ _ _); refine Stop.out ?_)
  k_with "call ref" => (k_here; (with_reducible show wpAny _ _ (call (Value.ref 73) _) _ _ _); refine Stop.out ?_)
  k_with "call ref" => (k_here; (with_reducible show wpAny _ _ (call (Value.ref 66) _) _ _ _); refine Stop.out ?_)
  k_with "call builtin:len" => (k_here; refine Stop.out ?_)
  k_with "call builtin:sum" => (k_here; (with_reducible show wpAny _ _ (call (Value.builtin "sum") [Value.ref _]) _ _ _); k_dflt (refine' sum_lst ?k0 ?k1 ?k2 ?k3 ?k4 ?_; (case k0 => with_unfolding_all rfl); (case k1 => k_asm); (case k2 => k_asm); (case k3 => k_mem); (case k4 => assumption)); intro h' tk' t' F' N')
  k_with "subscriptTail" => (k_here; (with_reducible show wpAny _ _ (subscriptTail _ _ _ (Value.int _ _)) _ _ _); refine Stop.out ?_)
  k_with "subscriptTail" => (k_here; (with_reducible show wpAny _ _ (subscriptTail _ _ (Value.ref (PtV.a _)) (Value.int _ _)) _ _ _); k_dflt (first | refine pt_x (by k_asm) (by k_mem) (by decide) ?_ | refine pt_y (by k_asm) (by k_mem) (by decide) ?_))
  k_with "eval ListComp" => (k_here; refine Stop.out ?_)
  k_with "exec Assign cons ListComp" => (k_here; refine Stop.out ?_)
  k_with "CompSrc" => (k_here; refine Stop.out ?_)
  k_with "execs cons" => (k_here; dsimp only)
  k_with "execs nil" => (k_here; dsimp only)
  w_strict (
    k_go0
    (all_goals try k_fold)
    k_steps
    rename IntsAre _ _ => hcI
    rename List.length _ = 6 => hc6
    rename List Int => us9
    rename Fr _ _ _ _ => F1
    rename News _ _ _ _ => N1
    obtain ⟨u, t1, t2, t3, F2⟩ := lawMid1 F1 (.cons rfl (.cons rfl (.cons rfl (.cons rfl .nil))))
    clear F1
    refine Stop.in ?_
    refine wpAny_Assign_Name ?_ (by with_unfolding_all rfl)
    k_steps
    refine Stop.in ?_
    k_dflt (refine LCg.ListComp_U (F₀ := by k_asm) (by with_unfolding_all rfl) (by decide) (by rfl) (by decide) (by rfl) ?_)
    k_steps
    rename IntsAre _ (List.take _ _) => hsI
    rename Fr _ _ _ _ => F3
    rename News _ _ _ _ => N3
    refine Stop.in ?_
    refine LCg.CompSrc.ledger rfl F3 N3 List.mem_cons_self (by rw [sizeLine_eq]; simp only [List.size_toArray]; rw [IntsAre.length hsI, List.length_take]; omega) ?_
    intro g3
    refine comp_pts (fun nw => .inr ⟨_, List.mem_append_right _ List.mem_cons_self, rfl, _, rfl⟩) ?_ ?_
    · intro i v ys nw I oI C oC D m₂ h tk E' hi hv hJ hC hx F N off ne
      obtain ⟨ck, ct, rfl⟩ := intsAre_val hsI (by simpa using hv)
      k_steps
      rename Fr _ _ _ _ => F5
      rename News _ _ _ _ => N5
      rename _ ∧ _ ∧ _ ∧ AllLt _ _ => l5
      exact pts_end F5 N5 ⟨l5.1, l5.2.1, l5.2.2.1, l5.2.2.2⟩ off hJ (cell_line _) (cell_place _)
    · intro ys nw hJ
      intro D3 h tk F N ho3
      rename _ ∧ (@LT.lt _ _ _ _) ∧ (@LT.lt _ _ _ _) => l6
      rename (@LT.lt _ _ _ _) ∧ (@LT.lt _ _ _ _) => l7
      obtain ⟨R, pts, hpl, N6, hR1, hR2, hcc, hcm, hpm⟩ := lawLed N ho3 hJ ⟨l6.2.1, l6.2.2⟩ l7 (Nat.lt_succ_self _)
      clear N ho3 hJ
      dsimp only
      have hpn : 3 ≤ pts.length ∧ pts.length ≤ 5 := by
        rw [hpl, List.size_toArray, IntsAre.length hsI, List.length_take]
        have := cell_three us9.sum
        omega
      k_steps
      rename News _ _ _ _ => N7
      refine Stop.in ?_
      have hwb := which_bounds us9.sum
      have hWb := white_bounds us9.sum
      refine menu_item N7 rfl rfl rfl rfl rfl rfl hwb.1 hwb.2 ?_
      intro la ti tj N8
      clear N7
      k_steps
      rename Frag.In _ _ => X9
      rename Fr _ _ _ _ => F9
      obtain ⟨hz0, hf0⟩ := seen_facts (wh := ((us9.sum.fdiv 3).fmod 6).toNat) (W := 4 + (us9.sum.fdiv 18).fmod 9) (by omega) hWb.1 hWb.2
      refine Stop.in ?_
      k_dflt (refine' seen_spec ?k1 F9 ?k3 N8 ?k5 ?kK ?kd ?ku ij_cases hWb.1 hWb.2 hz0 _ hf0 ?_; (case k1 => k_asm); (case k3 => k_asm); (case k5 => k_asm); (case kK => first | exact rfl | assumption); (case kd => ktr_room); (case ku => ktr_units))
      intro x9 d1 d2 o1 o2 kv1 kv2 h9 tk9 F10 N10 hd1 hd2 hs1 hs2
      clear hf0 hz0
      dsimp only [tupO] at N10
      dsimp only
      k_steps
      rename Fr _ _ _ _ => F11
      rename News _ _ _ _ => N11
      refine Stop.in ?_
      k_dflt (refine Assign_spots F11 N11 (by rfl) (by with_unfolding_all rfl) (by rfl) (by rfl) (by with_unfolding_all rfl) (by decide) (by rfl) (by decide) (by rfl) (by rfl) (by decide) (by rfl) ?_ ?_ ?_ ?_)
      · k_steps
        rename IsRange _ _ _ _ _ _ _ _ => hR
        rename Fr _ _ _ _ => F12
        rename News _ _ _ _ => N12
        exact ⟨_, _, _, _, _, _, rfl, rfl, F12, N12, hR⟩
      · intro ys nw I oI C oC D m₂ h tk E' hoC F N
        k_steps
        rename IsRange _ _ _ _ _ _ _ _ => hR
        rename Fr _ _ _ _ => F12
        rename News _ _ _ _ => N12
        exact ⟨_, _, _, _, _, _, rfl, rfl, F12, N12, hR⟩
      · intro i j t u ys nw J oJ I oI C oC D m₂ h tk E' hi hj hK hoC hmx hmy F N off
        k_steps
        rename Fr _ _ _ _ => F12
        rename News _ _ _ _ => N12
        rename _ ∧ _ ∧ _ ∧ _ ∧ AllLt _ _ => l5
        exact sp_end F12 N12 ⟨l5.1, l5.2.1, l5.2.2.1, l5.2.2.2.1, l5.2.2.2.2⟩ off hK hi hj rfl rfl
      · intro D h tk ys nw hK F N off
        obtain ⟨S, spts, hs16, N13, hS1, hS2, hsm, hdm1, hdm2, hRS, hspm, hsxy⟩ := lawLed2 N off hK hd1 hd2 (by assumption) (by assumption) hR1 hR2
        obtain ⟨u2, F13⟩ := lawMid2 F (.cons rfl (.cons rfl (.cons rfl (.cons rfl (.cons rfl (.cons rfl (.cons rfl (.cons rfl .nil))))))))
        clear F N off hK
        dsimp only
        k_steps
        refine Stop.in ?_
        k_dflt (refine LCg.Assign_ListComp_U (F₀ := by k_asm) (by rfl) (by with_unfolding_all rfl) (by with_unfolding_all rfl) (by decide) (by rfl) (by decide) (by rfl) (by rfl) (by rfl) ?_)
        k_steps
        rename Fr _ _ _ _ => F14
        rename News _ _ _ _ => N14
        refine Stop.in ?_
        refine LCg.CompSrc.ledger rfl F14 N14 (List.mem_cons_of_mem _ (List.mem_cons_of_mem _ hsm)) (by rw [sizeLine_eq]; simp; omega) ?_
        intro g8
        refine comp_inv (fun i ys nw => nw = [] ∧ RoundsJ pts spts i ys) (fun nw => .inr ⟨_, List.mem_append_right _ (List.mem_cons_of_mem _ (List.mem_cons_of_mem _ hsm)), rfl, _, rfl⟩) ⟨rfl, RoundsJ.zero⟩ ?_ ?_
        · rintro i v ys nw I oI C oC D m₂ h tk E' hi hv ⟨rfl, hys⟩ hC hx F N off ne
          obtain ⟨p, hpi, rfl⟩ : ∃ p, spts[i]? = some p ∧ v = .ref p.a := by
            simp only [List.getElem?_toArray, List.getElem?_map, Option.map_eq_some_iff] at hv
            obtain ⟨p, h1, rfl⟩ := hv
            exact ⟨p, h1, rfl⟩
          obtain ⟨hsp1, hsp2⟩ := hspm p (List.mem_of_getElem? hpi)
          simp only [List.nil_append] at N off
          k_steps
          rename Fr _ _ _ _ => F15
          rename News _ _ _ _ => N15
          refine Stop.in ?_
          k_dflt (refine' rounds_spec ?k1 F15 ?k3 N15 ?k5 ?kK ?kd ?ku (pts := pts) (sp := p) (List.mem_cons_of_mem _ (List.mem_cons_of_mem _ (List.mem_cons_of_mem _ (List.mem_cons_of_mem _ (List.mem_cons_of_mem _ (hRS _ hcm)))))) (fun q hq => ⟨List.mem_cons_of_mem _ (List.mem_cons_of_mem _ (List.mem_cons_of_mem _ (List.mem_cons_of_mem _ (List.mem_cons_of_mem _ (hRS _ (hpm q hq).1))))), (hpm q hq).2⟩) (List.mem_cons_of_mem _ (List.mem_cons_of_mem _ (List.mem_cons_of_mem _ (List.mem_cons_of_mem _ (List.mem_cons_of_mem _ hsp1))))) hsp2 hpn.1 hpn.2 ?_ ?_; (case k1 => k_asm); (case k3 => k_asm); (case k5 => k_asm); (case kK => first | exact rfl | assumption); (case kd => ktr_room); (case ku => ktr_units))
          · intro t h' tk' hoff F16 N16
            exact ElEnd.intro F16 N16 [] (fun p hp => hp) trivial ⟨rfl, hys.step hpi (.inr ⟨t, rfl, hoff⟩)⟩
          · intro h' tk' F16 N16
            exact ElEnd.intro F16 N16 [] (fun p hp => hp) trivial ⟨rfl, hys.step hpi (.inl rfl)⟩
        · rintro rvs nw ⟨rfl, hys⟩
          k_steps
          refine Stop.in ?_
          k_dflt (refine LCg.Assign_ListComp_U (F₀ := by k_asm) (by rfl) (by with_unfolding_all rfl) (by with_unfolding_all rfl) (by decide) (by rfl) (by decide) (by rfl) (by rfl) (by rfl) ?_)
          k_steps
          rename Fr _ _ _ _ => F17
          rename News _ _ _ _ => N17
          have hcS := hRS _ hcm
          refine Stop.in ?_
          refine Calls.call_len_list (pts_list N17 (List.mem_cons_of_mem _ (List.mem_cons_of_mem _ (List.mem_cons_of_mem _ hcS)))) (by simp; omega) ?_
          k_steps
          rename IsRange _ _ _ _ _ _ _ _ => hR
          rename Fr _ _ _ _ => F18
          rename News _ _ _ _ => N18
          refine Stop.in ?_
          refine LCg.CompSrc.range (n := pts.length) rfl F18 N18 hR (by rw [List.length_map]; exact small3 hpn.1 hpn.2) (by rw [List.length_map, rangeSize_nat]; simp) (by rw [sizeLine_eq]; omega) ?_
          intro g9
          refine comp_inv (CrossJ pts) (fun nw => trivial) CrossJ.zero ?_ ?_
          · rintro i v ys nw I oI C oC D m₂ h tk E' hi ⟨tv, rfl⟩ ⟨rfl, hcys⟩ hC hx F N off ne
            simp only [List.nil_append] at N off
            obtain ⟨qa, hqa⟩ : ∃ a, pts[prevI pts.length i]? = some a := ⟨_, List.getElem?_eq_getElem (prevI_lt hi)⟩
            obtain ⟨qb, hqb⟩ : ∃ b, pts[i]? = some b := ⟨_, List.getElem?_eq_getElem hi⟩
            have hpa := hRS _ (hpm qa (List.mem_of_getElem? hqa)).1
            have hpb := hRS _ (hpm qb (List.mem_of_getElem? hqb)).1
            obtain ⟨a1, a2, a3, a4⟩ := (hpm qa (List.mem_of_getElem? hqa)).2
            obtain ⟨b1, b2, b3, b4⟩ := (hpm qb (List.mem_of_getElem? hqb)).2
            k_steps
            refine Stop.in ?_
            refine pts_item (p := qa) (by k_asm) (by k_mem) hpn.2 (prevI_idx hi) hqa ?_
            k_steps
            refine Stop.in ?_
            refine pts_item (p := qb) (by k_asm) (by k_mem) hpn.2 own_idx hqb ?_
            k_steps
            refine Stop.in ?_
            refine pts_item (p := qb) (by k_asm) (by k_mem) hpn.2 own_idx hqb ?_
            k_steps
            refine Stop.in ?_
            refine pts_item (p := qa) (by k_asm) (by k_mem) hpn.2 (prevI_idx hi) hqa ?_
            k_steps
            exact ElEnd.intro (by k_asm) (by k_asm) [] (fun p hp => hp) trivial (CrossJ.step hcys hqa hqb rfl)
          · rintro cvs nw ⟨rfl, hcvs⟩
            k_steps
            rename Fr _ _ _ _ => F19
            rename News _ _ _ _ => N19
            rename LCg.Off1 _ ([] ++ (_, LCg.lst _) :: _) => o2
            rename LCg.Off1 _ ([] ++ (_, _) :: (_, _) :: S) => o1
            rename _ ∧ _ ∧ _ ∧ _ ∧ AllLt _ S => l9
            obtain ⟨V, N20, hV1, hV2, hTV, hCV, hRV, hSV⟩ := lawLed3 N19 o1 o2 l9.2.2.1 l9.2.2.2.1 hS1 hS2
            refine seen_loop rfl F19 N20 hTV (.cons rfl (.cons rfl (.cons rfl (.cons rfl (.cons rfl .nil))))) ⟨_, by assumption⟩ ?_ ?_
            · clear N19 F19 N20
              intro d v2 oc u h tk I oi hI3 hd hoc F N
              obtain ⟨od, kvd, hod, hkd, hsd⟩ : ∃ od kvd, (d, od) ∈ V ∧ Obj.IsDictOf (PySem.intKind pg _) od kvd ∧ SeenK kvd 49 (hueF ((us9.sum.fdiv 3).fmod 6).toNat) := by
                rcases hd with rfl | rfl
                · exact ⟨_, _, hSV _ hdm1, hd1, hs1⟩
                · exact ⟨_, _, hSV _ hdm2, hd2, hs2⟩
              have hptok : ∀ p ∈ pts, p.ok := fun p hp => (hpm p hp).2
              have hG1 : ∀ sp ∈ spts, (∀ i, i < pts.length → offStep sp pts i = true) → walkSum (tT (hueF ((us9.sum.fdiv 3).fmod 6).toNat) sp) pts pts.length = 360000 * wayOf ((us9.sum.fdiv 3).fmod 6) * walkSum (rR sp) pts pts.length := fun sp hsp => law_spot hwb.1 hwb.2 hptok (hspm sp hsp).2
              have hG2 := law_sum hwb.1 hwb.2 hptok (fun p hp => (hspm p hp).2) hs16 hsxy
              have hG3 := wayOf_bound hwb.1 hwb.2
              have hG4 := cross_bound hptok hpn.2
              generalize hueF ((us9.sum.fdiv 3).fmod 6).toNat = f at hsd hG1 hG2
              have hwe : 1 - 2 * ((us9.sum.fdiv 3).fmod 6).fdiv 3 = wayOf ((us9.sum.fdiv 3).fmod 6) := rfl
              rw [hwe] at F ⊢
              generalize wayOf ((us9.sum.fdiv 3).fmod 6) = way at F hG1 hG2 hG3 ⊢
              dsimp only [loopNames] at F
              k_steps
              refine Stop.in ?_
              k_dflt (refine LCg.Assign_ListComp_U (F₀ := by k_asm) (by rfl) (by with_unfolding_all rfl) (by with_unfolding_all rfl) (by decide) (by rfl) (by decide) (by rfl) (by rfl) (by rfl) ?_)
              k_steps
              rename Fr _ _ _ _ => F21
              rename News _ _ _ _ => N21
              refine Stop.in ?_
              refine LCg.CompSrc.ledger rfl F21 N21 (List.mem_cons_of_mem _ (List.mem_cons_of_mem _ (List.mem_cons_of_mem _ (hSV _ hsm)))) (by rw [sizeLine_eq]; simp; omega) ?_
              intro g8
              refine comp_inv (TurnsJ f pts spts) (fun nw => .inr ⟨_, List.mem_append_right _ (List.mem_cons_of_mem _ (List.mem_cons_of_mem _ (List.mem_cons_of_mem _ (hSV _ hsm)))), rfl, _, rfl⟩) TurnsJ.zero ?_ ?_
              · rintro i v ys nw I2 oI C oC D4 m₂ h tk E' hi hv ⟨rfl, hys⟩ hC hx F N off ne
                obtain ⟨p, hpi, rfl⟩ : ∃ p, spts[i]? = some p ∧ v = .ref p.a := by
                  simp only [List.getElem?_toArray, List.getElem?_map, Option.map_eq_some_iff] at hv
                  obtain ⟨p, h1, rfl⟩ := hv
                  exact ⟨p, h1, rfl⟩
                obtain ⟨hsp1, hsp2⟩ := hspm p (List.mem_of_getElem? hpi)
                simp only [List.nil_append] at N off
                k_steps
                rename Fr _ _ _ _ => F22
                rename News _ _ _ _ => N22
                refine Stop.in ?_
                k_dflt (refine' turning_spec ?k1 F22 ?k3 N22 ?k5 ?kK ?kd ?ku (pts := pts) (sp := p) (f := f) (mem6 (hSV _ hcS)) (fun q hq => ⟨mem6 (hSV _ (hRS _ (hpm q hq).1)), (hpm q hq).2⟩) (mem6 (hSV _ hsp1)) hsp2 (mem6 hod) hkd hsd hpn.1 hpn.2 ?_; (case k1 => k_asm); (case k3 => k_asm); (case k5 => k_asm); (case kK => first | exact rfl | assumption); (case kd => ktr_room); (case ku => ktr_units))
                intro t h' tk' F23 N23
                exact ElEnd.intro F23 N23 [] (fun p hp => hp) trivial (TurnsJ.step hys hpi)
              · rintro tvs nw ⟨rfl, htvs⟩
                have htake : List.take (List.map PtV.val spts).toArray.size spts = spts := by simp
                rw [htake] at htvs
                k_steps
                · rename (0 ≤ _) => hlo
                  rename (_ < 0 + _) => hhi
                  rename Int => nn
                  have hj : nn.toNat < 16 := by omega
                  have hrl : rvs.length = 16 := by have := hys.1; simp only [List.size_toArray, List.length_map] at this; omega
                  obtain ⟨sp, hsp⟩ : ∃ sp, spts[nn.toNat]? = some sp := ⟨_, List.getElem?_eq_getElem (by omega)⟩
                  obtain ⟨rv, hrv⟩ : ∃ v, rvs[nn.toNat]? = some v := ⟨_, List.getElem?_eq_getElem (by omega)⟩
                  have hrV := hys.2 _ sp rv hsp hrv
                  rename Fr _ _ _ _ => F24
                  rename News _ _ _ _ => N24
                  refine Stop.in ?_
                  refine list_item (items := rvs.toArray) ⟨_, (N24 _ (List.mem_cons_of_mem _ (List.mem_cons_of_mem _ (List.mem_cons_of_mem _ (List.mem_cons_of_mem _ (List.mem_cons_of_mem _ hRV)))))).1, rfl, _, rfl⟩ (by simp; omega) (.inl ⟨hlo, rfl⟩) (by simpa using hrv) ?_
                  rcases hrV with rfl | ⟨t, rfl, hoff⟩
                  · k_steps
                  · have hT := hG1 sp (List.mem_of_getElem? hsp) hoff
                    have hTi : (spts.map fun sp => walkSum (tT f sp) pts pts.length).getD nn.toNat 0 = walkSum (tT f sp) pts pts.length := by simp [hsp]
                    k_steps
                    refine Stop.in ?_
                    rename News _ _ _ _ => N25
                    refine list_item (items := rvs.toArray) ⟨_, (N25 _ (List.mem_cons_of_mem _ (List.mem_cons_of_mem _ (List.mem_cons_of_mem _ (List.mem_cons_of_mem _ (List.mem_cons_of_mem _ hRV)))))).1, rfl, _, rfl⟩ (by simp; omega) (.inl ⟨hlo, rfl⟩) (by simpa using hrv) ?_
                    rw [hTi, hT]
                    k_steps
                    rename (360000 * way * _ ≠ _) => hne
                    exact absurd rfl hne
                · rename (_ ≠ 180000 * way * _) => hne
                  rw [crossL_sum] at hne
                  exact absurd hG2 hne
                · rename Fr _ _ _ _ => F25
                  rename News _ _ _ _ => N25
                  refine enum_end _ F25 N25 (.cons rfl (.cons rfl (.cons rfl (.cons rfl (.cons rfl .nil))))) ⟨_, by assumption⟩ ?_ ?_
                  · intro p hp
                    rw [List.mem_singleton.mp hp]; exact List.mem_cons_of_mem _ List.mem_cons_self
                  · exact fun p hp => List.mem_cons_of_mem _ (List.mem_cons_of_mem _ hp)
            · clear N19 F19 N20
              intro oc u h tk F N
              k_steps))
end Mine
end
theorem PySem.Challenge.cw_xh0001_01_holds : PySem.Challenge.rw_xh0001_01.Holds := by
  exact Mine.law_try
