import PyProof.Rows.All
import Wide.All
import OpenK.AllK
import Wide.FinOn
import PySem.Challenge.RW_pe0126_01
set_option Elab.async false
set_option maxRecDepth 100000
set_option maxHeartbeats 8000000
set_option rowWalk.seconds 0
namespace Mine
open PySem PySem.W PySem.W.X PyProof.Rows
open_top hd for PySem.Challenge.rw_pe0126_01
local macro_rules | `(tactic| walk_at $s:str) => `(tactic| k_extra $s)
local macro_rules | `(tactic| k_all) => `(tactic| assumption)
local macro_rules | `(tactic| kst_same) => `(tactic| (intro z h1 h2 h3; (simp only [List.forall_mem_cons, List.not_mem_nil, false_implies, implies_true, and_true, ne_eq] at h2); (simp only [List.contains_cons, List.contains_nil, Bool.or_false, Bool.or_eq_false_iff, beq_eq_false_iff_ne, ne_eq] at h3); simp [kstB, h1, h2, h3]))
section
abbrev PG : Program := PySem.Challenge.rw_pe0126_01.row.prog

/-- a contract: a call of the written def at f with the values vs comes back with a value and new objects that Post tells -/
def Spec (w : World) (d : Nat) (f : Addr) (vs : List Value) (Post : Value → List (Addr × Obj) → Prop) : Prop :=
  ∀ (loose : List Str) (mean : ExcName → Option Value) (mg mb : Str → Option Value) (news : List (Addr × Obj)) (dp un : Nat) (gd : Option (List Code)) (cn : Str) (cs : Scope) (a : Addr) (ccd : Value) (cl : List (Str × Addr)) (outer : List Env) (A₀ : Around) (base h₀ : Heap) (L : Addr) (m : Str → Option Value) (s : Shared) (Q E : Value → Shared → Prop),
    Below A₀ base outer h₀ → Fr h₀ L s.heap m → (hd.heap_39 w.params).In h₀ → News h₀ L s.heap news → Top topProg loose mean mg mb h₀ → cs.kind = .function →
    dp + d < recursionLimit → un + 8 * d + 8 < cLine →
    (∀ v new h' tk', Post v new → (∀ p ∈ new, ∀ q ∈ news, q.1 < p.1) → Fr h₀ L h' m → News h₀ L h' (new ++ news) → Q v { s with heap := h', toks := tk' }) →
    wpAny (model PG w) (ktrTop dp un gd cn cs L a ccd cl outer) (call (.ref f) vs) Q E s
def flt3 (x y z : UInt64) (t1 t2 t3 : Tok) : Obj := { cls := .type "tuple", data := .seq #[.float x t1, .float y t2, .float z t3] }
def IsTup3 (x y z : UInt64) (v : Value) (new : List (Addr × Obj)) : Prop := ∃ D t1 t2 t3, v = .ref D ∧ new = [(D, flt3 x y z t1 t2 t3)]
theorem words1 : True := by
  w_top off
  k_with_none
  trivial
section
variable {prog : Program} {w : World} {A : Around} {E : Value → Shared → Prop} {s : Shared}
theorem bestOf {op : CmpOp} {vs : List Value} {bt : Nat → Nat → Bool} {Q : Value → Shared → Prop} (hh : A.handled = none)
    (hcmp : CmpOf prog w A.in1 op (fun i v => vs.toArray[i]? = some v) bt) (hn : 0 < vs.length)
    (h : ∀ v h' tk, vs.toArray[argBest bt (vs.toArray.size - 1)]? = some v → (∀ d o, s.heap.get? d = some o → h'.get? d = some o) → Q v { s with heap := h', toks := tk }) :
    wpAny (model prog w) A.in1 (pyIter (.ref s.heap.objs.size)) (fun it s₂ => ∃ I fp wr n P St bt, it = .ref I ∧ Walks prog w A.in1 I fp wr n P St ∧ St 0 s₂.heap ∧ (∀ b ∈ fp, b < s₂.heap.objs.size) ∧ 0 < n ∧ CmpOf prog w A.in1 op P bt ∧
      ∀ v h' tk, P (argBest bt (n - 1)) v → (∀ b o, b ∉ wr → s₂.heap.get? b = some o → h'.get? b = some o) → Q v { s₂ with heap := h', toks := tk }) E
      { s with heap := s.heap.push { cls := .type "tuple", data := .seq vs.toArray } } := by
  have hT : (s.heap.push { cls := .type "tuple", data := .seq vs.toArray }).IsTuple s.heap.objs.size vs.toArray := ⟨_, Heap.get?_push_size _ rfl, rfl, 0, rfl⟩
  refine wpAny_pyIter_tuple hT ?_
  have hsz : (s.heap.push { cls := .type "tuple", data := .seq vs.toArray }).objs.size = s.heap.objs.size + 1 := Heap.size_push ..
  refine ⟨_, [_, s.heap.objs.size], [_], _, _, _, _, rfl, Walks.tuple (A := A.in1) hh _ s.heap.objs.size (by rw [hsz]; exact Nat.ne_of_lt (Nat.lt_succ_self _)) vs.toArray,
    ⟨⟨_, Heap.get?_push_size _ rfl, rfl, rfl⟩, hT.push _⟩, fun d hd => ?_, by simpa using hn, hcmp, fun v h' tk hP hk => ?_⟩
  · show d < ((s.heap.push _).push _).objs.size
    rw [Heap.size_push, hsz]
    rcases List.mem_cons.mp hd with rfl | hd
    · rw [hsz]; exact Nat.lt_succ_self _
    · rcases List.mem_cons.mp hd with rfl | hd
      · exact Nat.lt_succ_of_lt (Nat.lt_succ_self _)
      · cases hd
  · refine h v h' tk hP fun d o e => ?_
    refine hk d o (fun hm => ?_) (Heap.get?_push_of_some _ (Heap.get?_push_of_some _ e))
    rcases List.mem_cons.mp hm with e1 | hm
    · have := Heap.lt_size e; rw [e1, hsz] at this; exact Nat.lt_irrefl _ (Nat.lt_of_succ_lt this)
    · cases hm
def fl3 (a b c : UInt64) : Nat → UInt64 | 0 => a | 1 => b | _ => c
theorem fl3_at {a b c : UInt64} {t u x : Tok} {i : Nat} {v : Value} (h : ([.float a t, .float b u, .float c x] : List Value).toArray[i]? = some v) : ∃ t', v = .float (fl3 a b c i) t' := by
  match i with
  | 0 => exact ⟨t, by simpa [fl3] using h.symm⟩
  | 1 => exact ⟨u, by simpa [fl3] using h.symm⟩
  | 2 => exact ⟨x, by simpa [fl3] using h.symm⟩
  | k + 3 => simp at h
def gtF (a b : UInt64) : Bool := Float64.cmp a b == some Ordering.gt
def ltF (a b : UInt64) : Bool := Float64.cmp a b == some Ordering.lt
def max3 (a b c : UInt64) : UInt64 := if gtF b a then (if gtF c b then c else b) else (if gtF c a then c else a)
def min3 (a b c : UInt64) : UInt64 := if ltF b a then (if ltF c b then c else b) else (if ltF c a then c else a)
theorem cmpF_gt {a b c : UInt64} {t u x : Tok} : CmpOf prog w A .Gt (fun i v => ([.float a t, .float b u, .float c x] : List Value).toArray[i]? = some v) (fun i j => gtF (fl3 a b c i) (fl3 a b c j)) := fun i j vi vj s Q E hi hj h => by
  obtain ⟨t, rfl⟩ := fl3_at hi
  obtain ⟨u, rfl⟩ := fl3_at hj
  exact PySem.AutoFloatOps.gt_0 h
theorem cmpF_lt {a b c : UInt64} {t u x : Tok} : CmpOf prog w A .Lt (fun i v => ([.float a t, .float b u, .float c x] : List Value).toArray[i]? = some v) (fun i j => ltF (fl3 a b c i) (fl3 a b c j)) := fun i j vi vj s Q E hi hj h => by
  obtain ⟨t, rfl⟩ := fl3_at hi
  obtain ⟨u, rfl⟩ := fl3_at hj
  exact PySem.AutoFloatOps.lt_0 h
theorem best_three {a b c : UInt64} {t u x : Tok} {q : UInt64 → UInt64 → Bool} {v : Value} (h : ([.float a t, .float b u, .float c x] : List Value).toArray[argBest (fun i j => q (fl3 a b c i) (fl3 a b c j)) 2]? = some v) :
    ∃ t', v = .float (if q b a then (if q c b then c else b) else (if q c a then c else a)) t' := by
  by_cases h1 : q b a = true
  · by_cases h2 : q c b = true
    · have e : argBest (fun i j => q (fl3 a b c i) (fl3 a b c j)) 2 = 2 := by simp [argBest, fl3, h1, h2]
      rw [e] at h; exact ⟨x, by simpa [h1, h2] using h.symm⟩
    · have e : argBest (fun i j => q (fl3 a b c i) (fl3 a b c j)) 2 = 1 := by simp [argBest, fl3, h1, h2]
      rw [e] at h; exact ⟨u, by simpa [h1, h2] using h.symm⟩
  · by_cases h2 : q c a = true
    · have e : argBest (fun i j => q (fl3 a b c i) (fl3 a b c j)) 2 = 2 := by simp [argBest, fl3, h1, h2]
      rw [e] at h; exact ⟨x, by simpa [h1, h2] using h.symm⟩
    · have e : argBest (fun i j => q (fl3 a b c i) (fl3 a b c j)) 2 = 0 := by simp [argBest, fl3, h1, h2]
      rw [e] at h; exact ⟨t, by simpa [h1, h2] using h.symm⟩
end
def flt3of (p : UInt64 × UInt64 × UInt64) (t1 t2 t3 : Tok) : Obj := { cls := .type "tuple", data := .seq #[.float p.1 t1, .float p.2.1 t2, .float p.2.2 t3] }
def IsTup (p : UInt64 × UInt64 × UInt64) (v : Value) (new : List (Addr × Obj)) : Prop := ∃ D t1 t2 t3, v = .ref D ∧ new = [(D, flt3of p t1 t2 t3)]
theorem ret_one {h₀ : Heap} {L : Addr} {m : Str → Option Value} {news : List (Addr × Obj)} {s : Shared} {Q : Value → Shared → Prop} {Post : Value → List (Addr × Obj) → Prop}
    (hret : ∀ v new h' tk', Post v new → (∀ p ∈ new, ∀ q ∈ news, q.1 < p.1) → Fr h₀ L h' m → News h₀ L h' (new ++ news) → Q v { s with heap := h', toks := tk' })
    {D : Addr} {o : Obj} {h' : Heap} {tk' : Nat} (F : Fr h₀ L h' m) (N : News h₀ L h' ((D, o) :: news)) (hl : ∀ q ∈ news, q.1 < D) (hp : Post (.ref D) [(D, o)]) : Q (.ref D) { s with heap := h', toks := tk' } :=
  hret _ _ h' tk' hp (fun p hp q hq => by rcases List.mem_cons.mp hp with rfl | hp; exact hl q hq; cases hp) F N
theorem ret_none {h₀ : Heap} {L : Addr} {m : Str → Option Value} {news : List (Addr × Obj)} {s : Shared} {Q : Value → Shared → Prop} {Post : Value → List (Addr × Obj) → Prop}
    (hret : ∀ v new h' tk', Post v new → (∀ p ∈ new, ∀ q ∈ news, q.1 < p.1) → Fr h₀ L h' m → News h₀ L h' (new ++ news) → Q v { s with heap := h', toks := tk' })
    {v : Value} {h' : Heap} {tk' : Nat} (F : Fr h₀ L h' m) (N : News h₀ L h' news) (hp : Post v []) : Q v { s with heap := h', toks := tk' } :=
  hret _ _ h' tk' hp (fun p hp => nomatch hp) F N
def hsvI (h : UInt64) : Int := Flt.toInt Float64.truncOf (Float64.mul h 4618441417868443648)
def hsvF (h : UInt64) : UInt64 := Float64.sub (Float64.mul h 4618441417868443648) (Float64.ofInt (hsvI h))
def hsvP (s v : UInt64) : UInt64 := Float64.mul v (Float64.sub 4607182418800017408 s)
def hsvQ (s v f : UInt64) : UInt64 := Float64.mul v (Float64.sub 4607182418800017408 (Float64.mul s f))
def hsvT (s v f : UInt64) : UInt64 := Float64.mul v (Float64.sub 4607182418800017408 (Float64.mul s (Float64.sub 4607182418800017408 f)))
def hsvR (j : Int) (f s v : UInt64) : UInt64 × UInt64 × UInt64 :=
  if j = 0 then (v, hsvT s v f, hsvP s v) else if j = 1 then (hsvQ s v f, v, hsvP s v) else if j = 2 then (hsvP s v, v, hsvT s v f)
  else if j = 3 then (hsvP s v, hsvQ s v f, v) else if j = 4 then (hsvT s v f, hsvP s v, v) else (v, hsvP s v, hsvQ s v f)
theorem big_fin {i : Int} (h : 2 ^ 1024 - 2 ^ 970 ≤ i.natAbs) (k : i.natAbs < 1000) : False := by
  have : (1000 : Nat) ≤ 2 ^ 1024 - 2 ^ 970 := by decide +kernel
  omega
def rgbD (r g b : UInt64) : UInt64 := Float64.sub (max3 r g b) (min3 r g b)
def rgbC (r g b x : UInt64) : UInt64 := Float64.div (Float64.sub (max3 r g b) x) (rgbD r g b)
def rgbH (r g b : UInt64) : UInt64 :=
  if (Float64.cmp r (max3 r g b) == some Ordering.eq) = true then Float64.sub (rgbC r g b b) (rgbC r g b g)
  else if (Float64.cmp g (max3 r g b) == some Ordering.eq) = true then Float64.sub (Float64.add 4611686018427387904 (rgbC r g b r)) (rgbC r g b b)
  else Float64.sub (Float64.add 4616189618054758400 (rgbC r g b g)) (rgbC r g b r)
def rgbR (r g b : UInt64) : UInt64 × UInt64 × UInt64 :=
  ((Float64.divmod (Float64.div (rgbH r g b) 4618441417868443648) 4607182418800017408).snd, Float64.div (rgbD r g b) (max3 r g b), max3 r g b)
section
variable {w : World} {d : Nat} {f : Addr} {vs : List Value} {loose : List Str} {mean : ExcName → Option Value} {mg mb : Str → Option Value} {news : List (Addr × Obj)} {dp un : Nat} {gd : Option (List Code)} {cn : Str} {cs : Scope} {a : Addr} {ccd : Value} {cl : List (Str × Addr)} {outer : List Env} {A₀ : Around} {base h₀ : Heap} {L : Addr} {m : Str → Option Value} {s : Shared} {Q E : Value → Shared → Prop}
theorem Spec.use {Post : Value → List (Addr × Obj) → Prop} (S : Spec w d f vs Post) (B : Below A₀ base outer h₀) (F : Fr h₀ L s.heap m) (X : (hd.heap_39 w.params).In h₀) (N : News h₀ L s.heap news) (T : Top topProg loose mean mg mb h₀) (hk : cs.kind = .function)
    (hd : dp + d < recursionLimit) (hu : un + 8 * d + 8 < cLine)
    (h : ∀ v new h' tk', Post v new → (∀ p ∈ new, ∀ q ∈ news, q.1 < p.1) → Fr h₀ L h' m → News h₀ L h' (new ++ news) → Q v { s with heap := h', toks := tk' }) :
    wpAny (model PG w) (ktrTop dp un gd cn cs L a ccd cl outer) (call (.ref f) vs) Q E s := S _ _ _ _ _ _ _ _ _ _ _ _ _ _ _ _ _ _ _ _ _ _ B F X N T hk hd hu h
end
end
section
theorem wp_execs_cut {M : Model} {A : Around} {E : Value → Shared → Prop} {env : Env} {l2 : List Stmt} {Q : Flow → Shared → Prop} (Γ : Ctx) (hΓ : Γ.In A) : ∀ (l1 : List Stmt) (p : Pos) (s : Shared),
    Sem.wp M Γ (execs l1 env) (fun f _ s' => match f with | .next => wpAny M A (execs l2 env) Q E s' | f => Q f s') (fun e _ s' => E e s') p s →
    Sem.wp M Γ (execs (l1 ++ l2) env) (fun f _ s' => Q f s') (fun e _ s' => E e s') p s
  | [], p, s, h => h Γ p hΓ
  | st :: r, p, s, h => by
    rw [execs_cons, Sem.wp_bind'] at h
    rw [List.cons_append, execs_cons, Sem.wp_bind']
    refine Sem.wp_mono M Γ _ (fun f p' s' h' => ?_) (fun _ _ _ h' => h') _ _ h
    cases f with
    | next => exact wp_execs_cut Γ hΓ r p' s' h'
    | brk => exact h'
    | cont => exact h'
    | ret v => exact h'
theorem execs_cut {M : Model} {A : Around} {E : Value → Shared → Prop} {env : Env} {l1 l2 : List Stmt} {Q : Flow → Shared → Prop} {s : Shared} (R : Shared → Prop)
    (h : wpAny M A (execs l1 env) (fun f s' => match f with | .next => R s' | f => Q f s') E s) (k : ∀ s', R s' → wpAny M A (execs l2 env) Q E s') : wpAny M A (execs (l1 ++ l2) env) Q E s :=
  fun Γ p hΓ => wp_execs_cut Γ hΓ l1 p s (wpAny_mono h (fun f s' h' => by cases f <;> first | exact k s' h' | exact h') (fun _ _ x => x) Γ p hΓ)
/-- cut a block behind its first n statements -/
theorem execs_at {M : Model} {A : Around} {E : Value → Shared → Prop} {env : Env} {l : List Stmt} {Q : Flow → Shared → Prop} {s : Shared} (n : Nat) (R : Shared → Prop)
    (h : wpAny M A (execs (l.take n) env) (fun f s' => match f with | .next => R s' | f => Q f s') E s) (k : ∀ s', R s' → wpAny M A (execs (l.drop n) env) Q E s') : wpAny M A (execs l env) Q E s := by
  have := execs_cut R h k
  rwa [List.take_append_drop] at this
theorem gen_post {M : Model} {A : Around} {t : Sem α} {E : Value → Shared → Prop} {s : Shared} {P : α → Shared → Prop} (h : ∀ Q : α → Shared → Prop, (∀ a s', P a s' → Q a s') → wpAny M A t Q E s) : wpAny M A t P E s := h P fun _ _ h => h
theorem gen_post2 {M : Model} {A : Around} {t : Sem α} {t2 : Sem β} {E E2 : Value → Shared → Prop} {s : Shared} {P : β → Shared → Prop} (h : ∀ Q : β → Shared → Prop, (∀ a s', P a s' → Q a s') → wpAny M A t (fun _ s2 => wpAny M A t2 Q E2 s2) E s) : wpAny M A t (fun _ s2 => wpAny M A t2 P E2 s2) E s := h P fun _ _ h => h
/-! plain: the distance of two texts whose signs differ in their case alone -/
def St (l : List Nat) : Str := ⟨l.toArray⟩
def subc (x y : Nat) : Int := if St [x] = St [y] then 0 else if Txt.lower (St [x]) = Txt.lower (St [y]) then 1 else 2
theorem subc_range (x y : Nat) : 0 ≤ subc x y ∧ subc x y ≤ 2 := by unfold subc; (repeat' split) <;> omega
structure Sim (la lb : List Nat) : Prop where
  len : lb.length = la.length
  off : ∀ i j, i < la.length → j < la.length → i ≠ j → subc (lb.getD i 0) (la.getD j 0) = 2
  diag : ∀ i, i < la.length → subc (lb.getD i 0) (la.getD i 0) ≤ 1
def Hm (la lb : List Nat) : Nat → Int
  | 0 => 0
  | k + 1 => Hm la lb k + subc (lb.getD k 0) (la.getD k 0)
def ham (la lb : List Nat) : Int := Hm la lb la.length
theorem Hm_nonneg (la lb : List Nat) : ∀ k, 0 ≤ Hm la lb k
  | 0 => Int.le_refl _
  | k + 1 => by have := Hm_nonneg la lb k; have := subc_range (lb.getD k 0) (la.getD k 0); unfold Hm; omega
theorem Hm_mono (la lb : List Nat) (i k : Nat) : Hm la lb i ≤ Hm la lb (i + k) := by
  induction k with
  | zero => exact Int.le_refl _
  | succ k ih => have := subc_range (lb.getD (i + k) 0) (la.getD (i + k) 0); show Hm la lb i ≤ Hm la lb (i + k) + subc (lb.getD (i + k) 0) (la.getD (i + k) 0); omega
theorem Hm_le {la lb : List Nat} (S : Sim la lb) : ∀ k, k ≤ la.length → Hm la lb k ≤ k
  | 0, _ => Int.le_refl _
  | k + 1, h => by have := Hm_le S k (by omega); have := S.diag k (by omega); unfold Hm; omega
def Dm (la lb : List Nat) (i j : Nat) : Int := if i ≤ j then Hm la lb i + 2 * ((j : Int) - i) else Hm la lb j + 2 * ((i : Int) - j)
theorem Dm_le {la lb : List Nat} {i j : Nat} (h : i ≤ j) : Dm la lb i j = Hm la lb i + 2 * ((j : Int) - i) := by unfold Dm; rw [if_pos h]
theorem Dm_ge {la lb : List Nat} {i j : Nat} (h : j ≤ i) : Dm la lb i j = Hm la lb j + 2 * ((i : Int) - j) := by
  unfold Dm
  split
  · have : i = j := by omega
    subst this; omega
  · rfl
theorem mm9 {R B C X : Int} (h1 : X ≤ R + 2) (h2 : X ≤ B + 2) (h3 : X ≤ C) (h : R + 2 = X ∨ B + 2 = X ∨ C = X) : min (min R B + 2) C = X := by
  refine Int.le_antisymm ?_ (Int.le_min.mpr ⟨?_, h3⟩)
  · rcases h with h | h | h
    · exact h ▸ Int.le_trans (Int.min_le_left ..) (Int.add_le_add_right (Int.min_le_left ..) 2)
    · exact h ▸ Int.le_trans (Int.min_le_left ..) (Int.add_le_add_right (Int.min_le_right ..) 2)
    · exact h ▸ Int.min_le_right ..
  · rcases Int.le_total R B with h | h
    · rw [Int.min_eq_left h]; exact h1
    · rw [Int.min_eq_right h]; exact h2
theorem sr9 (a b : Nat) : ((a + 1 : Nat) : Int) - b = (a : Int) - b + 1 := Int.add_right_comm a 1 (-b)
theorem sl9 (a b : Nat) : (a : Int) - ((b + 1 : Nat) : Int) + 1 = (a : Int) - b := by rw [Int.natCast_add, ← Int.sub_sub]; exact Int.sub_add_cancel ..
theorem m29 (x y : Int) (h : x + 1 = y) : 2 * x + 2 = 2 * y := h ▸ (Int.mul_add 2 x 1).symm
theorem dm1 {H s : Int} {i j : Nat} (h : s ≤ 2) : min (min (H + s + 2 * ((j : Int) - ((i + 1 : Nat) : Int))) (H + 2 * (((j + 1 : Nat) : Int) - i)) + 2) (H + 2 * ((j : Int) - i) + 2) = H + s + 2 * (((j + 1 : Nat) : Int) - ((i + 1 : Nat) : Int)) := by
  have e3 : (((j + 1 : Nat) : Int) - ((i + 1 : Nat) : Int)) = (j : Int) - i := by rw [Int.natCast_add, Int.natCast_add]; exact Int.add_sub_add_right ..
  have e4 : H + s + 2 * ((j : Int) - ((i + 1 : Nat) : Int)) + 2 = H + s + 2 * ((j : Int) - i) := by rw [Int.add_assoc, m29 _ _ (sl9 ..)]
  have e2 : H + 2 * (((j + 1 : Nat) : Int) - i) = H + 2 * ((j : Int) - i) + 2 := by rw [← m29 _ _ (sr9 _ _).symm, ← Int.add_assoc]
  have e5 : H + s + 2 * ((j : Int) - i) ≤ H + 2 * ((j : Int) - i) + 2 := by rw [Int.add_right_comm]; exact Int.add_le_add_left h _
  rw [e3, e2]
  exact mm9 (Int.le_of_eq e4.symm) (Int.le_trans e5 (Int.le_add_of_nonneg_right (by decide))) e5 (.inl e4)
theorem dm2 {H s res : Int} {i : Nat} (h : s ≤ 2) (hr : (res = 2 * (i : Int) ∧ i = 0 ∧ H = 0) ∨ res = H + 2 * (((i + 1 : Nat) : Int) - i)) : min (min res (H + 2 * (((i + 1 : Nat) : Int) - i)) + 2) (H + 2 * ((i : Int) - i) + s) = H + s + 2 * (((i + 1 : Nat) : Int) - ((i + 1 : Nat) : Int)) := by
  have e : H + 2 * (((i + 1 : Nat) : Int) - i) = H + 2 := by rw [show ((i + 1 : Nat) : Int) - i = 1 by rw [Int.natCast_add, Int.add_comm, Int.add_sub_cancel]; rfl]; rfl
  rw [e] at hr ⊢
  rw [Int.sub_self, Int.sub_self, Int.mul_zero, Int.add_zero, Int.add_zero]
  have h1 : H + s ≤ H + 2 := Int.add_le_add_left h _
  have h2 : H + s ≤ H + 2 + 2 := Int.le_trans h1 (Int.le_add_of_nonneg_right (by decide))
  refine mm9 ?_ h2 (Int.le_refl _) (.inr (.inr rfl))
  rcases hr with ⟨r, i0, h0⟩ | r
  · subst i0; rw [r, h0, Int.zero_add]; exact h
  · rw [r]; exact h2
theorem dm3 {H s res : Int} {i j : Nat} (h : s ≤ 2) (hr : (res = 2 * (i : Int) ∧ j = 0 ∧ H = 0) ∨ res = H + 2 * (((i + 1 : Nat) : Int) - j)) : min (min res (H + s + 2 * ((i : Int) - ((j + 1 : Nat) : Int))) + 2) (H + 2 * ((i : Int) - j) + 2) = H + s + 2 * (((i + 1 : Nat) : Int) - ((j + 1 : Nat) : Int)) := by
  have e3 : (((i + 1 : Nat) : Int) - ((j + 1 : Nat) : Int)) = (i : Int) - j := by rw [Int.natCast_add, Int.natCast_add]; exact Int.add_sub_add_right ..
  have e4 : H + s + 2 * ((i : Int) - ((j + 1 : Nat) : Int)) + 2 = H + s + 2 * ((i : Int) - j) := by rw [Int.add_assoc, m29 _ _ (sl9 ..)]
  have e2 : H + 2 * (((i + 1 : Nat) : Int) - j) = H + 2 * ((i : Int) - j) + 2 := by rw [← m29 _ _ (sr9 _ _).symm, ← Int.add_assoc]
  have e5 : H + s + 2 * ((i : Int) - j) ≤ H + 2 * ((i : Int) - j) + 2 := by rw [Int.add_right_comm]; exact Int.add_le_add_left h _
  rw [e2] at hr
  rw [e3]
  refine mm9 ?_ (Int.le_of_eq e4.symm) e5 (.inr (.inl e4))
  rcases hr with ⟨r, i0, h0⟩ | r
  · subst i0; rw [r]; rw [h0] at e5; rw [h0]; refine Int.le_trans e5 ?_; rw [Int.zero_add]; exact Int.le_refl _
  · rw [r]; exact Int.le_trans e5 (Int.le_add_of_nonneg_right (by decide))
theorem Dm_step {la lb : List Nat} (S : Sim la lb) {i j : Nat} (hi : i < la.length) (hj : j < la.length) {res : Int} (hr : res = if j = 0 then 2 * (i : Int) else Dm la lb (i + 1) j) :
    min (min res (Dm la lb i (j + 1)) + 2) (Dm la lb i j + subc (lb.getD i 0) (la.getD j 0)) = Dm la lb (i + 1) (j + 1) := by
  have r2 := (subc_range (lb.getD i 0) (la.getD i 0)).2
  have r3 := (subc_range (lb.getD j 0) (la.getD j 0)).2
  rcases Nat.lt_trichotomy i j with h | h | h
  · rw [if_neg (Nat.ne_of_gt (Nat.lt_of_le_of_lt (Nat.zero_le i) h)), Dm_le h] at hr
    rw [S.off i j hi hj (Nat.ne_of_lt h), hr, Dm_le (Nat.le_succ_of_le (Nat.le_of_lt h)), Dm_le (Nat.le_of_lt h), Dm_le (Nat.succ_le_succ (Nat.le_of_lt h))]
    exact dm1 r2
  · subst h
    rw [Dm_le (Nat.le_succ i), Dm_le (Nat.le_refl i), Dm_le (Nat.le_refl (i + 1))]
    refine dm2 r2 ?_
    split at hr
    · rename_i h0; subst h0; exact .inl ⟨hr, rfl, rfl⟩
    · rw [Dm_ge (Nat.le_succ i)] at hr; exact .inr hr
  · rw [S.off i j hi hj (Nat.ne_of_gt h), Dm_ge h, Dm_ge (Nat.le_of_lt h), Dm_ge (Nat.succ_le_succ (Nat.le_of_lt h))]
    refine dm3 r3 ?_
    split at hr
    · rename_i h0; subst h0; exact .inl ⟨hr, rfl, rfl⟩
    · rw [Dm_ge (Nat.le_succ_of_le (Nat.le_of_lt h))] at hr; exact .inr hr
def rowAt (la lb : List Nat) (i j : Nat) : List Int := (List.range la.length).map fun k => if k < j then Dm la lb (i + 1) (k + 1) else Dm la lb i (k + 1)
theorem rowAt_length (la lb : List Nat) (i j : Nat) : (rowAt la lb i j).length = la.length := by simp [rowAt]
theorem rowAt_get {la lb : List Nat} {i j : Nat} (hj : j < la.length) : (rowAt la lb i j).getD j 0 = Dm la lb i (j + 1) := by simp [rowAt, hj]
theorem rowAt_set {la lb : List Nat} {i j : Nat} (hj : j < la.length) : (rowAt la lb i j).set j (Dm la lb (i + 1) (j + 1)) = rowAt la lb i (j + 1) := by
  apply List.ext_getElem?
  intro k
  rw [List.getElem?_set]
  by_cases h : j = k
  · subst h; simp [rowAt, hj]
  · simp only [h, if_false, rowAt, List.getElem?_map]
    by_cases hk : k < la.length
    · simp only [List.getElem?_range hk, Option.map_some]
      by_cases h2 : k < j
      · simp [h2, Nat.lt_succ_of_lt h2]
      · have : ¬ k < j + 1 := by omega
        simp [h2, this]
    · rw [List.getElem?_eq_none (by simp; omega)]; rfl
theorem rowAt_full (la lb : List Nat) (i : Nat) : rowAt la lb i la.length = rowAt la lb (i + 1) 0 := by
  unfold rowAt
  apply List.map_congr_left
  intro k hk
  have := List.mem_range.mp hk
  simp [this]
theorem rowAt_start (la lb : List Nat) : rowAt la lb 0 0 = (List.range la.length).map fun k : Nat => 2 + 2 * (k : Int) := by
  unfold rowAt
  apply List.map_congr_left
  intro k hk
  simp [Dm, Hm]; omega
end
section
def IsInt (i : Int) (v : Value) (new : List (Addr × Obj)) : Prop := new = [] ∧ ∃ t, v = .int i t
section
variable {w : World} {d : Nat} {f : Addr} {vs : List Value} {loose : List Str} {mean : ExcName → Option Value} {mg mb : Str → Option Value} {news : List (Addr × Obj)} {dp un : Nat} {gd : Option (List Code)} {cn : Str} {cs : Scope} {a : Addr} {ccd : Value} {cl : List (Str × Addr)} {outer : List Env} {A₀ : Around} {base h₀ : Heap} {L : Addr} {m : Str → Option Value} {s : Shared} {Q E : Value → Shared → Prop}
theorem Spec.useI {i : Int} (S : Spec w d f vs (IsInt i)) (B : Below A₀ base outer h₀) (F : Fr h₀ L s.heap m) (X : (hd.heap_39 w.params).In h₀) (N : News h₀ L s.heap news) (T : Top topProg loose mean mg mb h₀) (hk : cs.kind = .function)
    (hd : dp + d < recursionLimit) (hu : un + 8 * d + 8 < cLine)
    (h : ∀ t h' tk', Fr h₀ L h' m → News h₀ L h' news → Q (.int i t) { s with heap := h', toks := tk' }) :
    wpAny (model PG w) (ktrTop dp un gd cn cs L a ccd cl outer) (call (.ref f) vs) Q E s :=
  S.use B F X N T hk hd hu fun v new h' tk' hp hl F' N' => by
    obtain ⟨rfl, t, rfl⟩ := hp
    exact h t h' tk' F' N'
end
theorem ret_int {h₀ : Heap} {L : Addr} {m : Str → Option Value} {news : List (Addr × Obj)} {s : Shared} {Q : Value → Shared → Prop} {i j : Int}
    (hret : ∀ v new h' tk', IsInt i v new → (∀ p ∈ new, ∀ q ∈ news, q.1 < p.1) → Fr h₀ L h' m → News h₀ L h' (new ++ news) → Q v { s with heap := h', toks := tk' })
    {t : Tok} {h' : Heap} {tk' : Nat} (F : Fr h₀ L h' m) (N : News h₀ L h' news) (e : i = j) : Q (.int j t) { s with heap := h', toks := tk' } :=
  ret_none hret F N ⟨rfl, t, by rw [e]⟩
def sub (x y : Str) : Int := if (x == y) = true then 0 else if (Txt.lower x == Txt.lower y) = true then 1 else 2
theorem subst_spec (w : World) (x y : Str) (tx ty : Tok) (hx : x.length ≤ 1) (hy : y.length ≤ 1) : Spec w 2 49 [.str x tx, .str y ty] (IsInt (sub x y)) := by
  unfold Spec
  intro loose mean mg mb news dp un gd cn cs a ccd cl outer A₀ base h₀ L m s Q E B F X N T hk hdp hun hret
  refine wpAny_call ?_
  k_dflt cell_enter
  k_steps
  all_goals first
    | (refine ret_int hret (by assumption) (by assumption) ?_
       unfold sub
       first | rw [if_pos (by assumption)] | rw [if_neg (by simp_all), if_pos (by assumption)] | rw [if_neg (by simp_all), if_neg (by simp_all)])
theorem step_ints : ∀ (vs : List Value) (a : Int) (n : Nat), vs.length = n → (∀ (j : Nat) (v : Value), vs[j]? = some v → ∃ t, v = .int (a + j * 2) t) → IntsAre vs ((List.range n).map fun k : Nat => a + 2 * (k : Int))
  | [], a, n, e, _ => by subst e; exact IntsAre.nil
  | v :: r, a, n, e, h => by
    subst e
    rw [List.length_cons, List.range_succ_eq_map, List.map_cons, List.map_map]
    obtain ⟨t, ht⟩ := h 0 v rfl
    have hv : v = .int (a + 2 * ((0 : Nat) : Int)) t := by rw [ht]; simp
    subst hv
    refine IntsAre.cons _ _ ?_
    have := step_ints r (a + 2) r.length rfl fun j v hj => by
      obtain ⟨t', ht'⟩ := h (j + 1) v hj
      refine ⟨t', ht'.trans ?_⟩
      congr 1; omega
    have e : (List.range r.length).map ((fun k : Nat => a + 2 * (k : Int)) ∘ Nat.succ) = (List.range r.length).map fun k : Nat => a + 2 + 2 * (k : Int) := by
      apply List.map_congr_left
      intro k _
      simp only [Function.comp]; omega
    rw [e]; exact this
theorem fit9 {x : Int} (h : 0 ≤ x ∧ x ≤ 1000) : -2 ^ 63 ≤ x ∧ x < 2 ^ 63 := ⟨Int.le_trans (by decide) h.1, Int.lt_of_le_of_lt h.2 (by decide)⟩
theorem list_step2 {prog : Program} {w : World} {A : Around} {E : Value → Shared → Prop} {s : Shared} {h₀ : Heap} {L r : Addr} {m : Str → Option Value} {news : List (Addr × Obj)} {a b : Int} {t₀ u₀ v₀ : Tok} {n : Nat} {Q : Value → Shared → Prop}
    (hh : A.handled = none) (F : Fr h₀ L s.heap m) (N : News h₀ L s.heap news) (hr : IsRange s.heap r a b 2 t₀ u₀ v₀) (hb : b = a + 2 * (n : Int)) (ha : 0 ≤ a ∧ a ≤ 100) (hz : n ≤ 100)
    (h : ∀ D us c h' tk, Fr h₀ L h' m → News h₀ L h' ((D, listOf (List.toArray us) c) :: news) → (∀ p ∈ news, p.1 < D) → IntsAre us ((List.range n).map fun k : Nat => a + 2 * (k : Int)) → Q (.ref D) { s with heap := h', toks := tk }) :
    wpAny (model prog w) A (call (.type "list") [.ref r]) Q E s := by
  have hn : Builtin.Range.rangeSize a b 2 = (n : Int) := by
    unfold Builtin.Range.rangeSize
    subst hb
    by_cases h0 : n = 0
    · subst h0; simp
    · rw [if_pos (by decide), if_pos (by omega)]; omega
  have hsm : Builtin.Range.small a b 2 = true := by
    unfold Builtin.Range.small
    rw [hn]
    simp only [Builtin.Range.rangeFitsLong, Bool.and_eq_true, Bool.or_eq_true, decide_eq_true_eq, beq_iff_eq, show (2 : Int) > 0 by decide, if_true]
    have hn0 : (0 : Int) ≤ 2 * (n : Int) ∧ 2 * (n : Int) ≤ 200 := ⟨Int.mul_nonneg (by decide) (Int.natCast_nonneg n), Int.mul_le_mul_of_nonneg_left (Int.ofNat_le.mpr hz) (by decide)⟩
    have hb0 : 0 ≤ b ∧ b ≤ 300 := hb ▸ ⟨Int.add_nonneg ha.1 hn0.1, Int.add_le_add ha.2 hn0.2⟩
    exact ⟨⟨⟨⟨fit9 ⟨ha.1, Int.le_trans ha.2 (by decide)⟩, fit9 ⟨hb0.1, Int.le_trans hb0.2 (by decide)⟩⟩, by decide⟩, fit9 ⟨Int.natCast_nonneg n, Int.le_trans (Int.ofNat_le.mpr hz) (by decide)⟩⟩,
      .inr (fit9 ⟨Int.add_nonneg hb0.1 (by decide), Int.le_trans (Int.add_le_add_right hb0.2 _) (by decide)⟩)⟩
  refine call_list_range hh hr hsm hn (by omega) fun h' tk acc c hk hD hI => ?_
  have hD' : h'.get? s.heap.objs.size = some (listOf (List.toArray acc.toList) c) := by
    rw [Array.toArray_toList]
    exact hD
  exact h _ acc.toList c h' tk (F.keeps hk) (news_pushed F N hk hD' rfl) (fun p hp => Heap.lt_size (N p hp).1) (step_ints _ _ _ (by rw [Array.length_toList]; exact hI.1) fun j v hj => hI.2 j v (by rw [← hj, Array.getElem?_toList]))
theorem list_step2' {prog : Program} {w : World} {A : Around} {E : Value → Shared → Prop} {s : Shared} {h₀ : Heap} {L r : Addr} {m : Str → Option Value} {news : List (Addr × Obj)} {t₀ u₀ v₀ : Tok} {l : Str} {Q : Value → Shared → Prop}
    (hh : A.handled = none) (F : Fr h₀ L s.heap m) (N : News h₀ L s.heap news) (hr : IsRange s.heap r 2 (2 * ((l.length : Int) + 1)) 2 t₀ u₀ v₀) (hz : l.length ≤ 100)
    (h : ∀ D us c h' tk, Fr h₀ L h' m → News h₀ L h' ((D, listOf (List.toArray us) c) :: news) → (∀ p ∈ news, p.1 < D) → IntsAre us ((List.range l.length).map fun k : Nat => 2 + 2 * (k : Int)) → Q (.ref D) { s with heap := h', toks := tk }) :
    wpAny (model prog w) A (call (.type "list") [.ref r]) Q E s := list_step2 hh F N hr (by omega) (by omega) hz h
end
section
def Halt (p : Prop) : Prop := p
theorem halt {p : Prop} (h : Halt p) : p := h
theorem rangeN {n : Nat} : Builtin.Range.rangeSize 0 (n : Int) 1 = (n : Int) := by
  unfold Builtin.Range.rangeSize
  rw [if_pos (by decide)]
  split <;> omega
theorem smallN {n : Nat} (h : n ≤ 1000) : Builtin.Range.small 0 (n : Int) 1 = true := small_one (by decide) (by decide) (by omega) (by omega)
structure OutInv (la lb : List Nat) (i : Nat) (r : Int) (us : List Value) : Prop where
  row : IntsAre us (rowAt la lb i 0)
  res : i ≠ 0 → r = Dm la lb i la.length
structure InInv (la lb : List Nat) (i j : Nat) (d r mn : Int) (us : List Value) : Prop where
  row : IntsAre us (rowAt la lb i j)
  dist : d = Dm la lb i j
  res : r = if j = 0 then 2 * (i : Int) else Dm la lb (i + 1) j
  min : i < j → mn ≤ Hm la lb (i + 1)
theorem ite_min (e r : Int) : (if e < r then e else r) = min r e := by
  rcases Int.lt_or_le e r with h | h
  · rw [if_pos h, Int.min_eq_right (Int.le_of_lt h)]
  · rw [if_neg (Int.not_lt.mpr h), Int.min_eq_left h]
theorem min_ite {d sc e r : Int} : (if d + sc < (if e < r then e else r) + 2 then d + sc else (if e < r then e else r) + 2) = min (min r e + 2) (d + sc) := by rw [ite_min e r, ite_min]
theorem inn_mn {X r' mn mn' : Int} (hm : (r' < mn ∧ mn' = r') ∨ (¬ r' < mn ∧ mn' = mn)) (h : mn ≤ X ∨ r' ≤ X) : mn' ≤ X := by omega
theorem inn_end {la lb : List Nat} (S : Sim la lb) {i j : Nat} (hi : i < la.length) (hj : j < la.length) {d r mn : Int} {us : List Value} (I : InInv la lb i j d r mn us) {e sc r' mn' : Int} {us' : List Value}
    (he : e = (rowAt la lb i j).getD j 0) (hsc : sc = subc (lb.getD i 0) (la.getD j 0)) (hr' : r' = if d + sc < (if e < r then e else r) + 2 then d + sc else (if e < r then e else r) + 2)
    (hm : (r' < mn ∧ mn' = r') ∨ (¬ r' < mn ∧ mn' = mn)) (hus : IntsAre us' ((rowAt la lb i j).set j r')) : InInv la lb i (j + 1) e r' mn' us' := by
  obtain ⟨hrow, hd, hr, hmn⟩ := I
  rw [rowAt_get hj] at he
  have st := Dm_step S hi hj hr
  have e2 : r' = Dm la lb (i + 1) (j + 1) := by
    rw [← st, ← hd, ← he, ← hsc, hr', min_ite]
  refine ⟨?_, he, ?_, ?_⟩
  · rw [e2, rowAt_set hj] at hus; exact hus
  · rw [if_neg (Nat.succ_ne_zero j)]; exact e2
  · intro h
    by_cases hij : i < j
    · exact inn_mn hm (.inl (hmn hij))
    · have : i = j := Nat.le_antisymm (Nat.le_of_lt_succ h) (Nat.le_of_not_lt hij)
      subst this
      rw [Dm_le (Nat.le_refl _), Int.sub_self, Int.mul_zero, Int.add_zero] at e2
      exact inn_mn hm (.inr (Int.le_of_eq e2))
theorem item_St {l : List Nat} {k : Int} {i : Nat} (hk : k = (i : Int)) (h : i < l.length) : Txt.item (St l) k = St [l.getD i 0] := by
  have := item_at (x := St l) (i := k) (n := i) (by omega) (by rw [hk]; simp [St, Str.length]; exact h) (by omega)
  rw [this]; simp [St]
theorem sub_St (x y : Nat) : sub (St [x]) (St [y]) = subc x y := by simp [sub, subc]
theorem inn_close {la lb : List Nat} (S : Sim la lb) {i j : Nat} (hi : i < la.length) (hj : j < la.length) {d r mn : Int} {us : List Value} (hrow : IntsAre us (rowAt la lb i j)) (hd : d = Dm la lb i j)
    (hr : r = if j = 0 then 2 * (i : Int) else Dm la lb (i + 1) j) (hmn : i < j → mn ≤ Hm la lb (i + 1)) {k k2 : Int} (hk : k = (i : Int)) (hk2 : k2 = (j : Int)) {e r' mn' : Int} {us' : List Value}
    (he : e = (rowAt la lb i j).getD k2.toNat 0) (hr' : r' = if d + sub (Txt.item (St lb) k) (Txt.item (St la) k2) < (if e < r then e else r) + 2 then d + sub (Txt.item (St lb) k) (Txt.item (St la) k2) else (if e < r then e else r) + 2)
    (hm : (r' < mn ∧ mn' = r') ∨ (¬ r' < mn ∧ mn' = mn)) (hus : IntsAre us' ((rowAt la lb i j).set k2.toNat r')) {n : Nat} (hn : n = j + 1) : InInv la lb i n e r' mn' us' := by
  subst hn
  have e3 : k2.toNat = j := by omega
  rw [e3] at he hus
  rw [item_St hk (by rw [S.len]; exact hi), item_St hk2 hj, sub_St] at hr'
  exact inn_end S hi hj ⟨hrow, hd, hr, hmn⟩ he rfl hr' hm hus
theorem led_sub {x : Addr × Obj} {r o : List (Addr × Obj)} : ∀ p ∈ x :: r, p ∈ x :: (r ++ o) := fun p hp => by
  rcases List.mem_cons.mp hp with rfl | hp
  · exact .head _
  · exact .tail _ (List.mem_append.mpr (.inl hp))
theorem led_own {x : Addr × Obj} {r o : List (Addr × Obj)} : ∀ p ∈ o, p ∈ x :: (r ++ o) := fun _ hp => .tail _ (List.mem_append.mpr (.inr hp))
theorem Hm_ham {la lb : List Nat} {i : Nat} (h : i ≤ la.length) : Hm la lb i ≤ ham la lb := by
  have := Hm_mono la lb i (la.length - i)
  rwa [Nat.add_sub_cancel' h] at this
theorem Dm_ham {la lb : List Nat} : Dm la lb la.length la.length = ham la lb := by rw [Dm_le (Nat.le_refl _)]; unfold ham; omega
theorem fr_kst {h₀ : Heap} {L : Addr} {h : Heap} {m : Str → Option Value} {ps : List (Str × Value)} (F : Fr h₀ L h m) (hp : ∀ p ∈ ps, m p.1 = some p.2) : Fr h₀ L h (kstB m ps) := by
  have e : kstB m ps = m := funext fun z => kstB_eq hp fun _ => rfl
  rw [e]; exact F
end
section
theorem St_length (l : List Nat) : (St l).length = l.length := by simp [St, Str.length]
theorem St_inj {l r : List Nat} (h : St l = St r) : l = r := by
  have := congrArg (fun s : Str => s.cps.toList) h
  simpa [St] using this
theorem slice_from_St {l : List Nat} {p : Int} (h0 : 0 ≤ p) (h1 : p ≤ l.length) : Txt.slice (St l) (some p) none = St (l.drop p.toNat) := by
  rw [slice_from_eq h0 (by rw [St_length]; exact h1) rfl]
  unfold St
  congr 1
  rw [List.take_of_length_le (by simp [Str.length]; omega)]
theorem slice_to_St {l : List Nat} {q : Int} (h0 : q < 0) (h1 : -(l.length : Int) ≤ q) : Txt.slice (St l) none (some q) = St (l.take (l.length + q).toNat) := by
  have := slice_closes_to_neg (x := St l) (j := q) h0 (by rw [St_length]; exact h1) rfl
  rw [beq_iff_eq] at this
  rw [this]
  unfold St
  congr 1
  have e : (q + ((St l).length : Int) - 0).toNat = (l.length + q).toNat := by rw [St_length]; congr 1; omega
  simp only [Int.toNat_zero, List.drop_zero]
  rw [show (⟨l.toArray⟩ : Str) = St l from rfl, e]
theorem item_neg_St {l : List Nat} {k : Int} {i : Nat} (hk : k = (i : Int) - l.length) (h : i < l.length) : Txt.item (St l) k = St [l.getD i 0] := by
  have := item_closes_neg (x := St l) (i := k) (j := i) (by omega) (by rw [St_length]; omega) (by rw [St_length]; omega)
  rw [beq_iff_eq] at this
  rw [this]; simp [St]
theorem subc_self (x : Nat) : subc x x = 0 := by simp [subc]
theorem Hm_self (l : List Nat) : ∀ k, Hm l l k = 0
  | 0 => rfl
  | k + 1 => by unfold Hm; rw [Hm_self l k, subc_self]; rfl
theorem ham_self (l : List Nat) : ham l l = 0 := Hm_self l _
theorem eq_of_getD {la lb : List Nat} (hl : lb.length = la.length) (h : ∀ i, i < la.length → la.getD i 0 = lb.getD i 0) : la = lb := by
  apply List.ext_getElem (by omega)
  intro i h1 h2
  have := h i h1
  simpa [List.getD_eq_getElem?_getD, List.getElem?_eq_getElem h1, List.getElem?_eq_getElem h2] using this
theorem St1_eq {x y : Nat} : St [x] = St [y] ↔ x = y := ⟨fun h => by have := St_inj h; simpa using this, fun h => by rw [h]⟩
theorem Hm_eqs {la lb : List Nat} : ∀ k, (∀ i, i < k → la.getD i 0 = lb.getD i 0) → Hm la lb k = 0
  | 0, _ => rfl
  | k + 1, h => by unfold Hm; rw [Hm_eqs k fun i hi => h i (by omega), h k (by omega), subc_self]; rfl
theorem getD_drop (l : List Nat) (p i : Nat) : (l.drop p).getD i 0 = l.getD (p + i) 0 := by
  simp [List.getD_eq_getElem?_getD, List.getElem?_drop]
theorem getD_take {l : List Nat} {p i : Nat} (h : i < p) : (l.take p).getD i 0 = l.getD i 0 := by
  simp [List.getD_eq_getElem?_getD, List.getElem?_take, h]
theorem Hm_drop (la lb : List Nat) (p : Nat) : ∀ k, Hm la lb (p + k) = Hm la lb p + Hm (la.drop p) (lb.drop p) k
  | 0 => by simp [Hm]
  | k + 1 => by
    show Hm la lb (p + k) + subc (lb.getD (p + k) 0) (la.getD (p + k) 0) = Hm la lb p + (Hm (la.drop p) (lb.drop p) k + subc ((lb.drop p).getD k 0) ((la.drop p).getD k 0))
    rw [Hm_drop la lb p k, getD_drop, getD_drop]; omega
theorem Hm_take (la lb : List Nat) (p : Nat) : ∀ k, k ≤ p → Hm (la.take p) (lb.take p) k = Hm la lb k
  | 0, _ => rfl
  | k + 1, h => by unfold Hm; rw [Hm_take la lb p k (by omega), getD_take h, getD_take h]
theorem Sim.drop {la lb : List Nat} (S : Sim la lb) (p : Nat) : Sim (la.drop p) (lb.drop p) := by
  refine ⟨by simp [S.len], fun i j hi hj hij => ?_, fun i hi => ?_⟩
  · rw [getD_drop, getD_drop]; simp at hi hj; exact S.off _ _ (by omega) (by omega) (by omega)
  · rw [getD_drop, getD_drop]; simp at hi; exact S.diag _ (by omega)
theorem Sim.take {la lb : List Nat} (S : Sim la lb) (p : Nat) : Sim (la.take p) (lb.take p) := by
  refine ⟨by simp [S.len], fun i j hi hj hij => ?_, fun i hi => ?_⟩
  · simp at hi hj; rw [getD_take (by omega), getD_take (by omega)]; exact S.off _ _ (by omega) (by omega) (by omega)
  · simp at hi; rw [getD_take (by omega), getD_take (by omega)]; exact S.diag _ (by omega)
theorem ham_drop {la lb : List Nat} {p : Nat} (hp : p ≤ la.length) (h : ∀ i, i < p → la.getD i 0 = lb.getD i 0) : ham (la.drop p) (lb.drop p) = ham la lb := by
  unfold ham
  have := Hm_drop la lb p (la.length - p)
  rw [Nat.add_sub_cancel' hp, Hm_eqs p h] at this
  rw [List.length_drop, this]; omega
theorem ham_take {la lb : List Nat} {p : Nat} (hp : p ≤ la.length) (h : ∀ i, p ≤ i → i < la.length → la.getD i 0 = lb.getD i 0) : ham (la.take p) (lb.take p) = ham la lb := by
  unfold ham
  rw [List.length_take, Nat.min_eq_left hp, Hm_take la lb p p (Nat.le_refl _)]
  have := Hm_drop la lb p (la.length - p)
  rw [Nat.add_sub_cancel' hp] at this
  rw [this, Hm_eqs (la := la.drop p) (la.length - p) fun i hi => by rw [getD_drop, getD_drop]; exact h _ (by omega) (by omega)]; omega
theorem slice_all (x : Str) : Txt.slice x none none = x := by
  unfold Txt.slice
  have e : (Builtin.Str.strSliceIndices none none 1 x.length).length = x.length := by
    show (sliceRange 0 (x.length : Int) 1).length = x.length
    unfold sliceRange
    rw [List.length_map, List.length_range, if_pos (by decide)]
    split <;> omega
  rw [e]; simp
theorem slice_all_St (l : List Nat) : Txt.slice (St l) none none = St l := slice_all _
theorem slice_nn {prog : Program} {w : World} {A : Around} {E : Value → Shared → Prop} {s : Shared} {h₀ : Heap} {L : Addr} {m : Str → Option Value} {news : List (Addr × Obj)} {x : Str} {t : Tok} {value slice : PySem.Expr} {Q : Value → Shared → Prop} (hF : Fr h₀ L s.heap m) (hN : News h₀ L s.heap news) (h : ∀ h' t' k, Fr h₀ L h' m → News h₀ L h' news → Q (.str x t') { s with heap := h', toks := k })
    (hs : subscripted slice false (.str x t) (.ref s.heap.objs.size) = operate [.ref s.heap.objs.size, .str x t] (getItem (.str x t) (.ref s.heap.objs.size)) := by with_unfolding_all rfl)
    (ht : ∀ r, letTemporaryGo value (.str x t) r = pure () := by intro _; with_unfolding_all rfl) (hsz : x.length ≤ sizeLine := by size_fits) :
    wpAny (model prog w) A (subscriptTail value slice (.str x t) (.ref s.heap.objs.size)) Q E { s with heap := s.heap.push { cls := .type "slice", data := .fields #[.none, .none, .none] } } :=
  slice_strN_nn_len hF hN (fun h' t' k a b _ => by rw [slice_all]; exact h h' t' k a b) hs ht hsz
theorem neg_of {q : Int} (h : q ≤ 0) (k : q ≠ 0) : q < 0 := by omega
theorem post_step {la lb : List Nat} {q : Int} (hq0 : q ≤ 0) (hend : 0 < la.length + q) (hqe : ∀ i : Nat, la.length + q ≤ i → i < la.length → la.getD i 0 = lb.getD i 0)
    (hl : lb.length = la.length) (hit : (Txt.item (St la) (q - 1) == Txt.item (St lb) (q - 1)) = true) :
    q - 1 ≤ 0 ∧ 0 ≤ la.length + (q - 1) ∧ ∀ i : Nat, la.length + (q - 1) ≤ i → i < la.length → la.getD i 0 = lb.getD i 0 := by
  have hi3 := item_neg_St (l := la) (k := q - 1) (i := (la.length + q - 1).toNat) (by omega) (by omega)
  have hi4 := item_neg_St (l := lb) (k := q - 1) (i := (la.length + q - 1).toNat) (by rw [hl]; omega) (by rw [hl]; omega)
  rw [hi3, hi4, beq_iff_eq, St1_eq] at hit
  refine ⟨by omega, by omega, fun i hi h9 => ?_⟩
  by_cases h : la.length + q ≤ (i : Int)
  · exact hqe i h h9
  · have : i = (la.length + q - 1).toNat := by omega
    rw [this]; exact hit
theorem post_less {n : Nat} {q : Int} (hend : 0 < n + q) : (n + (q - 1)).toNat < (n + q).toNat := by omega
structure Trim (la1 lb1 : List Nat) (q : Int) (la lb : List Nat) : Prop where
  sim : Sim la lb
  pos : 0 < la.length
  le : la.length ≤ 16
  ham : Mine.ham la lb = Mine.ham la1 lb1
  ta : q < 0 → Txt.slice (St la1) none (some q) = St la
  tb : q < 0 → Txt.slice (St lb1) none (some q) = St lb
  sa : q = 0 → St la1 = St la
  sb : q = 0 → St lb1 = St lb
theorem trim_of {la1 lb1 : List Nat} (S1 : Sim la1 lb1) (h16 : la1.length ≤ 16) {q : Int} (hq0 : q ≤ 0) (hend : 0 < la1.length + q) (hqe : ∀ i : Nat, la1.length + q ≤ i → i < la1.length → la1.getD i 0 = lb1.getD i 0) :
    ∃ la lb, Trim la1 lb1 q la lb := by
  have hl5 : (la1.take (la1.length + q).toNat).length = (la1.length + q).toNat := by rw [List.length_take]; omega
  refine ⟨la1.take (la1.length + q).toNat, lb1.take (la1.length + q).toNat, S1.take _, by omega, by omega, ham_take (by omega) fun i h1 h2 => hqe i (by omega) h2, fun h => ?_, fun h => ?_, fun h => ?_, fun h => ?_⟩
  · rw [slice_to_St h (by omega)]
  · rw [slice_to_St h (by rw [S1.len]; omega), S1.len]
  · have hq9 : (la1.length + q).toNat = la1.length := by omega
    rw [hq9, List.take_length]
  · have hq9 : (la1.length + q).toNat = la1.length := by omega
    rw [hq9, List.take_of_length_le (Nat.le_of_eq S1.len)]
theorem ite_tt9 {p q : Prop} (h : p) : if true = true then p else q := by simpa using h
theorem ite_ff9 {p q : Prop} (h : q) : if false = true then p else q := by simpa using h
theorem test_cut {M : Model} {A : Around} {E : Value → Shared → Prop} {g h : Heap} {L : Addr} {m : Str → Option Value} {news : List (Addr × Obj)} {T : Sem Bool} {Q : Bool → Shared → Prop} {s s1 : Shared} (C : Bool → Prop) (_F : Fr g L h m)
    (h1 : wpAny M A T (fun b s₂ => Halt (∃ h' tk, s₂ = { s with heap := h', toks := tk } ∧ Fr g L h' m ∧ News g L h' news ∧ C b)) E s1)
    (h2 : ∀ b h' tk, Fr g L h' m → News g L h' news → C b → Q b { s with heap := h', toks := tk }) : wpAny M A T Q E s1 :=
  wpAny_mono h1 (fun b s₂ x => by obtain ⟨h', tk, rfl, F, N, c⟩ := x; exact h2 b h' tk F N c) fun _ _ x => x
end
section
def i4 (a b c d : Int) : Nat → Int | 0 => a | 1 => b | 2 => c | _ => d
def min4 (a b c d : Int) : Int :=
  let x := if b < a then b else a
  let y := if c < x then c else x
  if d < y then d else y
section
variable {prog : Program} {w : World} {A : Around} {E : Value → Shared → Prop} {s : Shared}
theorem i4_at {a b c d : Int} {t u x y : Tok} {i : Nat} {v : Value} (h : ([.int a t, .int b u, .int c x, .int d y] : List Value).toArray[i]? = some v) : ∃ t', v = .int (i4 a b c d i) t' := by
  match i with
  | 0 => exact ⟨t, by simpa [i4] using h.symm⟩
  | 1 => exact ⟨u, by simpa [i4] using h.symm⟩
  | 2 => exact ⟨x, by simpa [i4] using h.symm⟩
  | 3 => exact ⟨y, by simpa [i4] using h.symm⟩
  | k + 4 => simp at h
theorem cmpI_lt {a b c d : Int} {t u x y : Tok} : CmpOf prog w A .Lt (fun i v => ([.int a t, .int b u, .int c x, .int d y] : List Value).toArray[i]? = some v) (fun i j => decide (i4 a b c d i < i4 a b c d j)) := fun i j vi vj s Q E hi hj h => by
  obtain ⟨t, rfl⟩ := i4_at hi
  obtain ⟨u, rfl⟩ := i4_at hj
  exact PyProof.Rows.lt_int h
theorem best_i4 {a b c d : Int} : i4 a b c d (argBest (fun i j => decide (i4 a b c d i < i4 a b c d j)) 3) = min4 a b c d := by
  have st : ∀ k, i4 a b c d (argBest (fun i j => decide (i4 a b c d i < i4 a b c d j)) (k + 1)) = if i4 a b c d (k + 1) < i4 a b c d (argBest (fun i j => decide (i4 a b c d i < i4 a b c d j)) k) then i4 a b c d (k + 1) else i4 a b c d (argBest (fun i j => decide (i4 a b c d i < i4 a b c d j)) k) := fun k => by
    rw [show argBest (fun i j => decide (i4 a b c d i < i4 a b c d j)) (k + 1) = if decide (i4 a b c d (k + 1) < i4 a b c d (argBest (fun i j => decide (i4 a b c d i < i4 a b c d j)) k)) = true then k + 1 else argBest (fun i j => decide (i4 a b c d i < i4 a b c d j)) k from rfl]
    by_cases h : i4 a b c d (k + 1) < i4 a b c d (argBest (fun i j => decide (i4 a b c d i < i4 a b c d j)) k)
    · rw [if_pos h, if_pos (decide_eq_true h)]
    · rw [if_neg h, if_neg (by simpa using h)]
  rw [st 2, st 1, st 0]
  rfl
theorem args_min4 (a b c d : Value) : argsOk "min" ⟨[a, b, c, d], []⟩ := by unfold argsOk; kernel_rfl
theorem min4_call {a b c d : Int} {t u x y : Tok} {h₀ : Heap} {L : Addr} {m : Str → Option Value} {news : List (Addr × Obj)} {Q : Value → Shared → Prop} (hh : A.handled = none) (F : Fr h₀ L s.heap m) (N : News h₀ L s.heap news)
    (h : ∀ t' h' tk, Fr h₀ L h' m → News h₀ L h' news → Q (.int (min4 a b c d) t') { s with heap := h', toks := tk }) :
    wpAny (model prog w) A (call (.builtin "min") [.int a t, .int b u, .int c x, .int d y]) Q E s := by
  have hname : (toString "min" ++ toString ".loop" : String) = "min.loop" := by decide
  refine call_function_tree PySem.F.kind_min PySem.F.plain_min PySem.F.entry_min (args_min4 _ _ _ _) ?_
  show wpAny _ A.in1 (Builtin.Builtins.bindParams "min" ["key", "default"] 0 ⟨[], []⟩ >>= _) _ _ s
  refine wpAny_bind (wpAny_of_eq (show Builtin.Builtins.bindParams "min" ["key", "default"] 0 ⟨[], []⟩ = pure [none, none] from rfl) ?_)
  show wpAny _ A.in1 (newTuple [.int a t, .int b u, .int c x, .int d y] >>= _) _ _ s
  refine wpAny_bind (wpAny_newObj_type ?_)
  have B := bestOf (prog := prog) (w := w) (E := E) (s := s) (vs := [.int a t, .int b u, .int c x, .int d y]) (Q := Q) hh cmpI_lt (by simp) fun v h' tk hv hk => by
    obtain ⟨t', rfl⟩ := i4_at hv
    have e : i4 a b c d (argBest (fun i j => decide (i4 a b c d i < i4 a b c d j)) (([.int a t, .int b u, .int c x, .int d y] : List Value).toArray.size - 1)) = min4 a b c d := best_i4
    rw [e]
    exact h t' h' tk (F.grownK hk) (N.grown hk)
  refine wpAny_bind (wpAny_mono B (fun it s₂ h₂ => ?_) fun _ _ e => e)
  obtain ⟨I, fp, wr, n, P, St, bt, rfl, W, hst, hfp, hn, hcmp, hQ⟩ := h₂
  refine wpAny_bind (wpAny_newObj_type ?_)
  have hSf : s₂.heap.objs.size ∉ fp := fun hm => Nat.lt_irrefl _ (hfp _ hm)
  rw [hname]
  refine wpAny_pure ⟨plainId_quiet PySem.F.plain_min_loop _, codeAny_min_loop_first W bt hcmp s₂.heap.objs.size hSf hn (W.frame _ _ _ hst fun b _ o e => Heap.get?_push_of_some _ e) (Heap.get?_push_size _ rfl) fun v h' tk hP hk => ?_⟩
  exact hQ v h' tk hP fun b o hbw e => hk b o hbw (Nat.ne_of_lt (Heap.lt_size e)) (Heap.get?_push_of_some _ e)
end
end
section
def eu : Nat → Int → Int → List Bool → List Bool × Int
  | 0, a, _, acc => (acc, a)
  | k + 1, a, b, acc => if a = b then (acc, a) else if a < b then eu k a (b - a) (true :: acc) else eu k (a - b) b (false :: acc)
def strs2 (l : List Bool) : List Str := l.flatMap fun b => [if b then Str.ofString "A" else Str.ofString "a", Str.ofString "aA"]
structure EuInv (a0 b0 a b : Int) (acc : List Bool) : Prop where
  pa : 0 < a
  pb : 0 < b
  le : a + b + acc.length ≤ 16
  eq : ∃ k : Nat, a + b ≤ k + 1 ∧ eu k a b acc = eu 16 a0 b0 []
theorem EuInv.lt {a0 b0 a b : Int} {acc : List Bool} (I : EuInv a0 b0 a b acc) (h : a < b) : EuInv a0 b0 a (b - a) (true :: acc) := by
  obtain ⟨pa, pb, le, k, hk, e⟩ := I
  cases k with
  | zero => exfalso; omega
  | succ k =>
    refine ⟨pa, by omega, by simp only [List.length_cons]; omega, k, by omega, ?_⟩
    rw [← e]; show _ = if a = b then _ else if a < b then _ else _
    rw [if_neg (by omega), if_pos h]
theorem EuInv.gt {a0 b0 a b : Int} {acc : List Bool} (I : EuInv a0 b0 a b acc) (h : ¬ a < b) (hn : a ≠ b) : EuInv a0 b0 (a - b) b (false :: acc) := by
  obtain ⟨pa, pb, le, k, hk, e⟩ := I
  cases k with
  | zero => exfalso; omega
  | succ k =>
    refine ⟨by omega, pb, by simp only [List.length_cons]; omega, k, by omega, ?_⟩
    rw [← e]; show _ = if a = b then _ else if a < b then _ else _
    rw [if_neg (by omega), if_neg h]
theorem EuInv.out {a0 b0 a : Int} {acc : List Bool} (I : EuInv a0 b0 a a acc) : eu 16 a0 b0 [] = (acc, a) := by
  obtain ⟨pa, pb, le, k, hk, e⟩ := I
  cases k with
  | zero => exfalso; omega
  | succ k => rw [← e]; show (if a = a then _ else _) = _; rw [if_pos rfl]
def IsEu (r : List Bool × Int) (v : Value) (new : List (Addr × Obj)) : Prop := ∃ T D vs n t, v = .ref T ∧ new = [(T, { cls := .type "tuple", data := .seq #[.ref D, .int r.2 t] }), (D, listOf (List.toArray vs) n)] ∧ StrsAre vs (strs2 r.1)
theorem strs2_length : ∀ l : List Bool, (strs2 l).length = 2 * l.length
  | [] => rfl
  | b :: l => by
    have := strs2_length l
    unfold strs2 at this ⊢
    simp only [List.flatMap_cons, List.length_append, List.length_cons, List.length_nil, this]; omega
theorem strsAre_length : ∀ {vs : List Value} {ys : List Str}, StrsAre vs ys → vs.length = ys.length
  | _, _, .nil => rfl
  | _, _, .cons _ _ h => by simp [strsAre_length h]
theorem strs_more {vs : List Value} {acc : List Bool} (b : Bool) {x : Str} {t u : Tok} (hx : x = if b then Str.ofString "A" else Str.ofString "a") (h : StrsAre vs (strs2 acc)) : StrsAre (([.str x t, .str (Str.ofString "aA") u] : List Value) ++ vs) (strs2 (b :: acc)) := by
  subst hx
  exact .cons _ _ (.cons _ _ h)
theorem eu_less {a b : Int} (ha : 0 < a) (hb : 0 < b) : (a + (b - a)).toNat < (a + b).toNat := by omega
theorem eu_less' {a b : Int} (ha : 0 < a) (hb : 0 < b) : (a - b + b).toNat < (a + b).toNat := by omega
/-- as Spec, without the order of the addresses -/
def Spec2 (w : World) (d : Nat) (f : Addr) (vs : List Value) (Post : Value → List (Addr × Obj) → Prop) : Prop :=
  ∀ (loose : List Str) (mean : ExcName → Option Value) (mg mb : Str → Option Value) (news : List (Addr × Obj)) (dp un : Nat) (gd : Option (List Code)) (cn : Str) (cs : Scope) (a : Addr) (ccd : Value) (cl : List (Str × Addr)) (outer : List Env) (A₀ : Around) (base h₀ : Heap) (L : Addr) (m : Str → Option Value) (s : Shared) (Q E : Value → Shared → Prop),
    Below A₀ base outer h₀ → Fr h₀ L s.heap m → (hd.heap_39 w.params).In h₀ → News h₀ L s.heap news → Top topProg loose mean mg mb h₀ → cs.kind = .function →
    dp + d < recursionLimit → un + 8 * d + 8 < cLine →
    (∀ v new h' tk', Post v new → Fr h₀ L h' m → News h₀ L h' (new ++ news) → Q v { s with heap := h', toks := tk' }) →
    wpAny (model PG w) (ktrTop dp un gd cn cs L a ccd cl outer) (call (.ref f) vs) Q E s
theorem ret2 {h₀ : Heap} {L : Addr} {m : Str → Option Value} {news : List (Addr × Obj)} {s : Shared} {Q : Value → Shared → Prop} {Post : Value → List (Addr × Obj) → Prop}
    (hret : ∀ v new h' tk', Post v new → Fr h₀ L h' m → News h₀ L h' (new ++ news) → Q v { s with heap := h', toks := tk' })
    {v : Value} {h' : Heap} {tk' : Nat} {led : List (Addr × Obj)} (new : List (Addr × Obj)) (F : Fr h₀ L h' m) (N : News h₀ L h' led) (hp : Post v new) (hs : ∀ q ∈ new ++ news, q ∈ led) : Q v { s with heap := h', toks := tk' } :=
  hret v new h' tk' hp F fun p hp => N p (hs p hp)
theorem led_first {x : Addr × Obj} {r q : List (Addr × Obj)} (h : ∀ p ∈ r, p ∈ q) : ∀ p ∈ x :: r, p ∈ x :: q := fun p hp => by
  rcases List.mem_cons.mp hp with rfl | hp
  · exact .head _
  · exact .tail _ (h p hp)
end
section
section
variable {prog : Program} {w : World} {A : Around} {E : Value → Shared → Prop} {s : Shared} {h₀ : Heap} {L t : Addr} {m : Str → Option Value} {news : List (Addr × Obj)} {a b : Value} {r : List Value}
theorem tup_led (N : News h₀ L s.heap news) (hm : (t, ({ cls := .type "tuple", data := .seq r.toArray } : Obj)) ∈ news) : PyProof.Rows.IsTup s.heap t r.toArray := ⟨_, (N _ hm).1, rfl, 0, rfl⟩
theorem tup_item0 {value slice : PySem.Expr} {u : Tok} {Q : Value → Shared → Prop} (N : News h₀ L s.heap news) (hm : (t, ({ cls := .type "tuple", data := .seq (a :: b :: r).toArray } : Obj)) ∈ news) (h : Q a s)
    (hs : subscripted slice false (.ref t) (.int 0 u) = operate [.ref t, .int 0 u] (getItem (.ref t) (.int 0 u)) := by with_unfolding_all rfl) :
    wpAny (model prog w) A (subscriptTail value slice (.ref t) (.int 0 u)) Q E s :=
  item_tupleT (tup_led N hm) (by decide) (by decide) (j := 0) (by simp [seqIndex?]; omega) rfl h hs
theorem tup_item1 {value slice : PySem.Expr} {u : Tok} {Q : Value → Shared → Prop} (N : News h₀ L s.heap news) (hm : (t, ({ cls := .type "tuple", data := .seq (a :: b :: r).toArray } : Obj)) ∈ news) (h : Q b s)
    (hs : subscripted slice false (.ref t) (.int 1 u) = operate [.ref t, .int 1 u] (getItem (.ref t) (.int 1 u)) := by with_unfolding_all rfl) :
    wpAny (model prog w) A (subscriptTail value slice (.ref t) (.int 1 u)) Q E s :=
  item_tupleT (tup_led N hm) (by decide) (by decide) (j := 1) (by simp [seqIndex?]; omega) rfl h hs
theorem tup_slice2 {value slice : PySem.Expr} {u : Tok} {Q : Value → Shared → Prop} (F : Fr h₀ L s.heap m) (N : News h₀ L s.heap news) (hm : (t, ({ cls := .type "tuple", data := .seq (a :: b :: r).toArray } : Obj)) ∈ news) (hz : r.length ≤ 1000)
    (h : ∀ D h', (∀ p ∈ news, p.1 < D) → Fr h₀ L h' m → News h₀ L h' ((D, { cls := .type "tuple", data := .seq r.toArray }) :: news) → Q (.ref D) { s with heap := h' })
    (hs : subscripted slice false (.ref t) (.ref s.heap.objs.size) = operate [.ref s.heap.objs.size, .ref t] (getItem (.ref t) (.ref s.heap.objs.size)) := by with_unfolding_all rfl)
    (hg : ∀ r, letTemporaryGo value (.ref t) r = pure () := by intro _; with_unfolding_all rfl) :
    wpAny (model prog w) A (subscriptTail value slice (.ref t) (.ref s.heap.objs.size)) Q E { s with heap := s.heap.push { cls := .type "slice", data := .fields #[.int 2 u, .none, .none] } } :=
  slice_tuple_from (a := 2) F N (tup_led N hm) (by decide) (by simp) (fun h' F' N' => h _ h' (fun p hp => Nat.lt_succ_of_lt (Heap.lt_size (N p hp).1)) F' N') hs hg (by rw [sizeLine_eq]; simp; omega)
end
def sepOf (b : Bool) : Str := if b then Str.ofString "A" else Str.ofString "a"
def stepR (y : Str) (b : Bool) : Str := Txt.join (Str.ofString "aA") (Txt.split y (sepOf b))
def okChain : Str → List Bool → Bool
  | _, [] => true
  | y, b :: r => decide (y.length ≤ 1000) && JoinOk (Str.ofString "aA") (Txt.split y (sepOf b)) && okChain (stepR y b) r
structure RepInv (x : Str) (l : List Bool) (y : Str) (r : List Bool) : Prop where
  len : r.length ≤ 16
  ok : okChain y r = true
  eq : r.foldl stepR y = l.foldl stepR x
theorem RepInv.next {x : Str} {l : List Bool} {y : Str} {b : Bool} {r : List Bool} (I : RepInv x l y (b :: r)) : y.length ≤ 1000 ∧ JoinOk (Str.ofString "aA") (Txt.split y (sepOf b)) = true ∧ RepInv x l (stepR y b) r := by
  obtain ⟨h1, h2, h3⟩ := I
  simp only [okChain, Bool.and_eq_true, decide_eq_true_eq] at h2
  exact ⟨h2.1.1, h2.1.2, by simp only [List.length_cons] at h1; omega, h2.2, h3⟩
theorem sepOf_length (b : Bool) : ((sepOf b).length == 0) = false := by cases b <;> rfl
def IsStr (x : Str) (v : Value) (new : List (Addr × Obj)) : Prop := new = [] ∧ ∃ t, v = .str x t
end
section
def dressCh (l : List Nat) (k : Int) : Str := if (Txt.item (St l) k == Str.ofString "a") = true then Txt.item (Str.ofString "abcdefghijklmnop") k else Txt.item (Str.ofString "ABCDEFGHIJKLMNOP") k
theorem strs_of_carried {ks : List Int} {g : Int → Str} : ∀ {ys : List Value}, CarriedAll ys (ks.map fun k => PyData.str (g k)) → StrsAre ys (ks.map g) := by
  induction ks with
  | nil => intro ys h; cases h; exact .nil
  | cons k ks ih =>
    intro ys h
    rw [List.map_cons] at h
    cases h with
    | cons a b => cases a; exact .cons _ _ (ih b)
theorem dressCh_length (l : List Nat) (k : Int) : (dressCh l k).length = 1 := by unfold dressCh; split <;> rfl
theorem dress_sum (l : List Nat) : ∀ ks : List Int, ((ks.map (dressCh l)).map (·.length)).sum = ks.length
  | [] => rfl
  | k :: ks => by simp only [List.map_cons, List.sum_cons, dress_sum l ks, dressCh_length, List.length_cons]; omega
def dressOf (l : List Nat) : Str := Txt.join (Str.ofString "") ((rangeKs 0 l.length).map (dressCh l))
theorem join_led {prog : Program} {w : World} {A : Around} {E : Value → Shared → Prop} {s : Shared} {h₀ : Heap} {L D : Addr} {news : List (Addr × Obj)} {ys : List Value} {xs : List Str} {t : Tok} {Q : Value → Shared → Prop}
    (N : News h₀ L s.heap news) (hm : (D, LCg.lst ys) ∈ news) (hs : StrsAre ys xs) (hok : (xs.map (·.length)).sum ≤ 1000) (h : ∀ t' k, Q (.str (Txt.join (Str.ofString "") xs) t') { s with toks := k }) :
    wpAny (model prog w) A (call (.builtin "str.join") [.str (Str.ofString "") t, .ref D]) Q E s :=
  join_list (items := ys.toArray) ⟨_, (N _ hm).1, rfl, _, rfl⟩ (by simpa using hs) (by show _ + _ * 0 ≤ _; omega) h
end
section
section
theorem words2 : True := by
  w_top off
  k_with_none
  k_with "call ref" => (k_here; (with_reducible show wpAny _ _ (PySem.call (Value.ref 49) _) _ _ _); (with_unfolding_all refine' Spec.useI (subst_spec _ _ _ _ _ ?_ ?_) ?_ ?_ ?_ ?_ ?_ ?_ ?_ ?_ ?_); (repeat ((fail_if_success (refine (show (_ : Prop) from ?_))); rotate_left 1)); (· (exact Nat.le_refl 1)); (· (exact Nat.le_refl 1)); (· (k_asm)); (· (k_asm)); (· (k_asm)); (· (k_asm)); (· (k_asm)); (· (first | exact rfl | assumption)); (· (ktr_room)); (· (ktr_units)); k_whole; intro tkx hkx tkkx Fkx Nkx; (try dsimp only); (try k_fold))
  k_with "call type:list" => (k_here; (with_reducible show wpAny _ _ (PySem.call (Value.type "list") [Value.ref _]) _ _ _); (rename IsRange _ _ _ _ 2 _ _ _ => rgX); (with_unfolding_all refine' list_step2' ?_ ?_ ?_ rgX ?_ ?_); (repeat ((fail_if_success (refine (show (_ : Prop) from ?_))); rotate_left 1)); (· (rfl)); (· (k_asm)); (· (k_asm)); (· (omega)); k_whole; intro Dkx vskx ckx hkx tkkx Fkx Nkx l1 hIkx; (try k_lt l1); (try k_sweep))
  k_with "to iter" => (repeat' ((fail_if_success (with_reducible show wpAny _ _ (PySem.pyIter _) _ _ _)); first | (k_unfold; (try dsimp only)) | walk1 | (dsimp only; walk1)))
  k_with "InvEndN" => (refine halt ?_)
  k_with "to for" => (repeat' ((fail_if_success (with_reducible show wpAny _ _ (PySem.exec (PySem.Stmt.For _ _ _ _ _) _) _ _ _)); first | (k_unfold; (try dsimp only)) | walk1 | (dsimp only; walk1)))
  k_with "to while" => (repeat' ((fail_if_success (with_reducible show wpAny _ _ (PySem.exec (PySem.Stmt.While _ _ _ _) _) _ _ _)); first | (k_unfold; (try dsimp only)) | walk1 | (dsimp only; walk1)))
  k_with "KswEnd" => (refine halt ?_)
  k_with "subscriptTail Name Slice str ref" => ((with_reducible show wpAny _ _ (subscriptTail _ (PySem.Expr.Slice none (some (PySem.Expr.BoolOp _ _ _)) none _) _ _) _ _ _); (with_reducible rename Fr _ _ _ _ => Fkx); (with_reducible rename News _ _ _ _ => Nkx); refine slice_nn (s := ⟨_, _, _, _, _⟩) Fkx Nkx ?_; intro _ _ _ _ _)
  k_with "to ite" => (repeat' ((fail_if_success (with_reducible show @ite Prop (true = true) _ _ _)); (fail_if_success (with_reducible show @ite Prop (false = true) _ _ _)); first | (k_unfold; (try dsimp only)) | walk1 | (dsimp only; walk1)))
  trivial
inductive LevA (g : Heap) (L' : Addr) (s0 : Shared) (news : List (Addr × Obj)) (la0 lb0 : List Nat) (c : Int) (s' : Shared) : Prop
  | mk (la lb : List Nat) (ta tb tc tr : Tok) (us : List Value) (D : Addr) (cc : Nat) (h' : Heap) (tk : Nat) (u : Str → Option Value) (h1 : Sim la lb) (h2 : 0 < la.length) (h3 : la.length ≤ 16) (h4 : ham la lb = ham la0 lb0) (h5 : ham la lb ≤ c) (h6 : IntsAre us (rowAt la lb 0 0)) (h7 : ∀ p ∈ news, p.1 < D) (h8 : s' = { s0 with heap := h', toks := tk })
    (h9 : Fr g L' h' (kstB u [(Str.ofString "a", .str (St la) ta), (Str.ofString "b", .str (St lb) tb), (Str.ofString "max_cost", .int c tc), (Str.ofString "row", .ref D), (Str.ofString "result", .int 0 tr)])) (h10 : News g L' h' ((D, listOf us.toArray cc) :: news)) : LevA g L' s0 news la0 lb0 c s'
inductive LevB (g : Heap) (L' : Addr) (s0 : Shared) (news : List (Addr × Obj)) (la0 lb0 : List Nat) (c : Int) (s' : Shared) : Prop
  | mk (la lb : List Nat) (ta tb tc : Tok) (h' : Heap) (tk : Nat) (u : Str → Option Value) (h1 : Sim la lb) (h2 : 0 < la.length) (h3 : la.length ≤ 16) (h4 : ham la lb = ham la0 lb0) (h5 : ham la lb ≤ c) (h8 : s' = { s0 with heap := h', toks := tk })
    (h9 : Fr g L' h' (kstB u [(Str.ofString "a", .str (St la) ta), (Str.ofString "b", .str (St lb) tb), (Str.ofString "max_cost", .int c tc)])) (h10 : News g L' h' news) : LevB g L' s0 news la0 lb0 c s'
inductive LevC (g : Heap) (L' : Addr) (s0 : Shared) (news : List (Addr × Obj)) (la0 lb0 : List Nat) (c : Int) (ta tb tc : Tok) (f : Flow) (s' : Shared) : Prop
  | mk (h0 : f = .next) (p : Nat) (tp : Tok) (h' : Heap) (tk : Nat) (u : Str → Option Value) (h1 : p < la0.length) (h2 : ∀ i, i < p → la0.getD i 0 = lb0.getD i 0) (h3 : la0.getD p 0 ≠ lb0.getD p 0) (h8 : s' = { s0 with heap := h', toks := tk })
    (h9 : Fr g L' h' (kstB u [(Str.ofString "a", .str (St la0) ta), (Str.ofString "b", .str (St lb0) tb), (Str.ofString "max_cost", .int c tc), (Str.ofString "pre", .int p tp)])) (h10 : News g L' h' news) : LevC g L' s0 news la0 lb0 c ta tb tc f s'
inductive LevD (g : Heap) (L' : Addr) (s0 : Shared) (news : List (Addr × Obj)) (la1 lb1 : List Nat) (c : Int) (tc : Tok) (f : Flow) (s' : Shared) : Prop
  | mk (h0 : f = .next) (q : Int) (tq tx ty : Tok) (h' : Heap) (tk : Nat) (u : Str → Option Value) (h1 : q ≤ 0) (h2 : 0 < la1.length + q) (h3 : ∀ i : Nat, la1.length + q ≤ i → i < la1.length → la1.getD i 0 = lb1.getD i 0) (h8 : s' = { s0 with heap := h', toks := tk })
    (h9 : Fr g L' h' (kstB u [(Str.ofString "a", .str (St la1) tx), (Str.ofString "b", .str (St lb1) ty), (Str.ofString "max_cost", .int c tc), (Str.ofString "post", .int q tq)])) (h10 : News g L' h' news) : LevD g L' s0 news la1 lb1 c tc f s'
theorem pre_next {la lb : List Nat} {p : Int} (hp0 : 0 ≤ p) (hpl : p.toNat < la.length) (hpe : ∀ i : Nat, (i : Int) < p → la.getD i 0 = lb.getD i 0) (hit : la.getD p.toNat 0 = lb.getD p.toNat 0) : 0 ≤ p + 1 ∧ p + 1 ≤ la.length ∧ ∀ i : Nat, (i : Int) < p + 1 → la.getD i 0 = lb.getD i 0 := by
  refine ⟨Int.le_trans hp0 (Int.le_add_of_nonneg_right (by decide)), (Int.toNat_lt hp0).mp hpl, fun i hi => ?_⟩
  rcases Int.lt_or_eq_of_le (Int.le_of_lt_add_one hi) with h | h
  · exact hpe i h
  · subst h; exact hit
theorem pre_less {p : Int} {n : Nat} (hpl : p.toNat < n) (hp0 : 0 ≤ p) : n - (p + 1).toNat < n - p.toNat := by
  rw [Int.toNat_add hp0 (by decide)]
  exact Nat.sub_lt_sub_left hpl (Nat.lt_succ_self _)
theorem pre_all {p : Int} {n i : Nat} (hp0 : 0 ≤ p) (h : n - p.toNat = 0) (hi : i < n) : (i : Int) < p := Int.lt_toNat.mp (Nat.lt_of_lt_of_le hi (Nat.sub_eq_zero_iff_le.mp h))
set_option pp.maxSteps 3000 in
theorem lev_spec (w : World) (la0 lb0 : List Nat) (c : Int) (ta tb tc : Tok) (hla : la0.length ≤ 16) (hS : Sim la0 lb0) (hcc : ham la0 lb0 ≤ c) :
    Spec w 4 56 [.str (St la0) ta, .str (St lb0) tb, .int c tc] (IsInt (ham la0 lb0)) := by
  unfold Spec
  intro loose mean mg mb news dp un gd cn cs ad ccd cl outer A₀ base h₀ L m s0 Q E B F X N T hk hdp hun hret
  refine wpAny_call ?_
  k_dflt cell_enter
  rename_i g L' h' FG' F' N' B' X' T'
  refine execs_at 15 (fun s' => LevA g L' s0 news la0 lb0 c s') ?_ ?_
  · dsimp only [List.take]
    clear hdp hun
    replace hcc : Halt (ham la0 lb0 ≤ c) := hcc
    refine execs_at 9 (fun s' => LevB g L' s0 news la0 lb0 c s') ?_ ?_
    · dsimp only [List.take]
      have hL1 : (St la0).length = la0.length := St_length _
      have hL2 : (St lb0).length = la0.length := by rw [St_length, hS.len]
      walk_at "to while"
      · exact ret_int hret (by assumption) (by assumption) (by (rename (St la0 == St lb0) = true => he); rw [beq_iff_eq] at he; rw [St_inj he, ham_self])
      rename (St la0 == St lb0) = false => he
      rename Fr _ _ _ _ => F2
      rename News _ _ _ _ => N2
      have hne : la0 ≠ lb0 := fun h => by rw [h] at he; simp at he
      refine wpAny_mono (Q := fun f s' => LevC g L' s0 news la0 lb0 c ta tb tc f s') ?_ ?_ (fun _ _ x => x)
      · with_unfolding_all refine' ksw_while (σ := Int × Tok) (fun _ => news) (fun c => [(Str.ofString "pre", .int c.1 c.2)]) (fun _ => True) [] (fun c => 0 ≤ c.1 ∧ c.1 ≤ la0.length ∧ ∀ i : Nat, (i : Int) < c.1 → la0.getD i 0 = lb0.getD i 0) (fun c => la0.length - c.1.toNat) (0, _) F2 N2 trivial ?kkw ?kpw ?turnw
        case kkw => kst_all
        case kpw => exact ⟨Int.le_refl _, by omega, fun i hi => absurd hi (by omega)⟩
        rintro ⟨p, tp⟩ u1 h1 tk1 _ hP F3 N3
        dsimp only at hP F3 N3
        obtain ⟨hp0, hp1, hpe⟩ := hP
        clear F2 N2
        have hs1 : (Txt.slice (St la0) (some p) none).length = la0.length - p.toNat := by rw [slice_from_St hp0 hp1, St_length, List.length_drop]
        have hs2 : (Txt.slice (St lb0) (some p) none).length = la0.length - p.toNat := by rw [slice_from_St hp0 (by rw [hS.len]; exact hp1), St_length, List.length_drop, hS.len]
        have hend : ¬ (la0.length - p.toNat = 0) := fun h => hne (eq_of_getD hS.len fun i hi => hpe i (pre_all hp0 h hi))
        have hpl : p.toNat < la0.length := Nat.lt_of_sub_ne_zero hend
        have hpa : p < ((St la0).length : Int) := hL1.symm ▸ (Int.toNat_lt hp0).mp hpl
        have hpb : p < ((St lb0).length : Int) := hL2.symm ▸ (Int.toNat_lt hp0).mp hpl
        have hi1 := item_St (l := la0) (k := p) (i := p.toNat) (Int.toNat_of_nonneg hp0).symm hpl
        have hi2 := item_St (l := lb0) (k := p) (i := p.toNat) (Int.toNat_of_nonneg hp0).symm (hS.len.symm ▸ hpl)
        k_steps
        all_goals first
          | (exfalso; simp only [hs1, hs2] at *; omega)
          | (exfalso; omega)
          | (unfold Halt
             (rename (Txt.item (St la0) p == Txt.item (St lb0) p) = true => hit)
             refine' ksw_end (_, _) (by assumption) (by assumption) (fun p hp => hp) trivial ?hk ?hr ?hp ?hm
             case hk => kst_all
             case hr =>
               intro z h2 h3
               simp only [List.forall_mem_cons, List.not_mem_nil, false_implies, implies_true, and_true, ne_eq] at h2
               simp [kstB, h2]
             case hp =>
               rw [hi1, hi2, beq_iff_eq, St1_eq] at hit
               exact pre_next hp0 hpl hpe hit
             case hm => exact pre_less hpl hp0)
          | ((rename (Txt.item (St la0) p == Txt.item (St lb0) p) = false => hit)
             rw [hi1, hi2, beq_eq_false_iff_ne, ne_eq, St1_eq] at hit
             refine' ⟨rfl, p.toNat, tp, _, _, _, hpl, fun i hi => hpe i (Int.lt_toNat.mp hi), hit, rfl, fr_kst (by assumption) ?kA8, by assumption⟩
             case kA8 => rw [Int.toNat_of_nonneg hp0]; kst_all)
      · intro f s' hR; obtain ⟨rfl, p, tp, h', tk, u, hp1, hpe, hpn, rfl, F', N'⟩ := hR
        dsimp only
        clear F2 N2
        have e1 : Txt.slice (St la0) (some (p : Int)) none = St (la0.drop p) := slice_from_St (by omega) (by omega)
        have e2 : Txt.slice (St lb0) (some (p : Int)) none = St (lb0.drop p) := slice_from_St (by omega) (by rw [hS.len]; omega)
        walk_at "to while"
        rename Fr _ _ _ _ => F2
        rename News _ _ _ _ => N2
        rw [e1, e2] at F2
        have S1 := hS.drop p
        have hm1 := ham_drop (la := la0) (lb := lb0) (Nat.le_of_lt hp1) hpe
        have hn1 : (la0.drop p).getD 0 0 ≠ (lb0.drop p).getD 0 0 := by rw [getD_drop, getD_drop]; exact hpn
        have hl1 : 0 < (la0.drop p).length := by rw [List.length_drop]; omega
        have hl2 : (la0.drop p).length ≤ 16 := by rw [List.length_drop]; omega
        clear hpe hpn hp1 e1 e2 hL1 hL2 he hne
        generalize la0.drop p = la1 at *
        generalize lb0.drop p = lb1 at *
        have hL3 : (St la1).length = la1.length := St_length _
        have hL4 : (St lb1).length = la1.length := by rw [St_length, S1.len]
        refine wpAny_mono (Q := fun f s' => LevD g L' s0 news la1 lb1 c tc f s') ?_ ?_ (fun _ _ x => x)
        · with_unfolding_all refine' ksw_while (σ := Int × Tok) (fun _ => news) (fun c => [(Str.ofString "post", .int c.1 c.2)]) (fun _ => True) [] (fun c => c.1 ≤ 0 ∧ 0 ≤ la1.length + c.1 ∧ ∀ i : Nat, la1.length + c.1 ≤ i → i < la1.length → la1.getD i 0 = lb1.getD i 0) (fun c => (la1.length + c.1).toNat) (0, _) F2 N2 trivial ?kkx ?kpx ?turnx
          case kkx => kst_all
          case kpx => exact ⟨Int.le_refl _, by dsimp only; omega, fun i hi h2 => absurd hi (by dsimp only; omega)⟩
          rintro ⟨q, tq⟩ u1 h1 tk1 _ hP F3 N3
          dsimp only at hP F3 N3
          obtain ⟨hq0, hq1, hqe⟩ := hP
          clear F2 N2
          have hend : 0 < la1.length + q := by
            rcases Int.lt_or_eq_of_le hq1 with h | h
            · exact h
            · exact absurd (hqe 0 (by omega) hl1) hn1
          refine test_cut (s := s0) (news := news) (fun b => b = true → (Txt.item (St la1) (q - 1) == Txt.item (St lb1) (q - 1)) = true) F3 ?_ ?_
          · by_cases hq : q = 0
            · have hq' : (q != 0) = false := by rw [hq]; rfl
              clear hq
              k_steps
              all_goals exact ⟨_, _, rfl, by assumption, by assumption, fun _ => by first | assumption | contradiction⟩
            · have hq' : (q != 0) = true := by simpa using hq
              k_steps
              all_goals first
                | exact absurd (by assumption : q = 0) (by assumption : q ≠ 0)
                | exact ⟨_, _, rfl, by assumption, by assumption, fun _ => by first | assumption | contradiction⟩
          · clear F3 N3
            intro b h4 tk4 F4 N4 hC
            cases b with
            | false =>
              refine ite_ff9 ?_
              refine' ⟨rfl, q, tq, _, _, _, _, _, hq0, hend, hqe, rfl, fr_kst F4 ?kA7, N4⟩
              case kA7 => kst_all
            | true =>
              refine ite_tt9 ?_
              have hP9 := post_step hq0 hend hqe S1.len (hC rfl)
              clear hC
              k_steps
              all_goals (
                unfold Halt
                refine' ksw_end (_, _) (by assumption) (by assumption) (fun p hp => hp) trivial ?hk ?hr ?hp ?hm
                case hk => kst_all
                case hr =>
                  intro z h2 h3
                  simp only [List.forall_mem_cons, List.not_mem_nil, false_implies, implies_true, and_true, ne_eq] at h2
                  simp [kstB, h2]
                case hp => exact hP9
                case hm => exact post_less hend)
        · intro f s' hR; obtain ⟨rfl, q, tq, tx, ty, h', tk, u, hq0, hq1, hqe, rfl, F', N'⟩ := hR
          dsimp only
          clear F2 N2
          obtain ⟨la, lb, TT⟩ := trim_of S1 hl2 hq0 hq1 hqe
          clear hqe
          by_cases hq : q = 0
          · have hq' : (q != 0) = false := by rw [hq]; rfl
            k_steps
            all_goals first
              | exact absurd (by assumption : q = 0) (by assumption)
              | ((try dsimp only)
                 (rename Fr _ _ _ _ => F9)
                 have hq9 : q < 0 := neg_of hq0 (by assumption)
                 rw [TT.ta hq9, TT.tb hq9] at F9
                 refine' ⟨la, lb, _, _, tc, _, _, _, TT.sim, TT.pos, TT.le, TT.ham.trans hm1, by rw [TT.ham, hm1]; exact hcc, rfl, fr_kst F9 ?kA6, by assumption⟩
                 case kA6 => kst_all)
              | ((try dsimp only)
                 (rename Fr _ _ _ _ => F9)
                 rw [TT.sa (by assumption), TT.sb (by assumption)] at F9
                 refine' ⟨la, lb, _, _, tc, _, _, _, TT.sim, TT.pos, TT.le, TT.ham.trans hm1, by rw [TT.ham, hm1]; exact hcc, rfl, fr_kst F9 ?kA5, by assumption⟩
                 case kA5 => kst_all)
          · have hq' : (q != 0) = true := by simpa using hq
            k_steps
            all_goals first
              | exact absurd (by assumption : q = 0) (by assumption)
              | ((try dsimp only)
                 (rename Fr _ _ _ _ => F9)
                 have hq9 : q < 0 := neg_of hq0 (by assumption)
                 rw [TT.ta hq9, TT.tb hq9] at F9
                 refine' ⟨la, lb, _, _, tc, _, _, _, TT.sim, TT.pos, TT.le, TT.ham.trans hm1, by rw [TT.ham, hm1]; exact hcc, rfl, fr_kst F9 ?kA6, by assumption⟩
                 case kA6 => kst_all)
              | ((try dsimp only)
                 (rename Fr _ _ _ _ => F9)
                 rw [TT.sa (by assumption), TT.sb (by assumption)] at F9
                 refine' ⟨la, lb, _, _, tc, _, _, _, TT.sim, TT.pos, TT.le, TT.ham.trans hm1, by rw [TT.ham, hm1]; exact hcc, rfl, fr_kst F9 ?kA5, by assumption⟩
                 case kA5 => kst_all)
    · intro s' hR; obtain ⟨la, lb, ta, tb, tc, h', tk, u, hS, hpos, hlen, hham, hc, rfl, F', N'⟩ := hR
      dsimp only [List.drop]
      have hL1 : (St la).length = la.length := by simp [St, Str.length]
      have hL2 : (St lb).length = la.length := by simp [St, Str.length, hS.len]
      have hc0 : 0 ≤ c := Int.le_trans (Hm_nonneg la lb la.length) hc
      k_steps
      all_goals first
        | (exfalso; simp only [hL1, hL2] at *; omega)
        | (exfalso; omega)
        | ((rename IntsAre _ _ => hI)
           rw [hL1, ← rowAt_start la lb] at hI
           refine' ⟨la, lb, ta, tb, tc, ?_, _, _, _, _, _, _, hS, hpos, hlen, hham, hc, hI, by assumption, rfl, fr_kst (by assumption) ?kA9, by assumption⟩
           case kA9 => kst_all)
  · intro s' hR; obtain ⟨la, lb, ta, tb, tc, tr, us, D, cc, h', tk, u, hS, hpos, hlen, hham, hc, hI, hlt, rfl, F', N'⟩ := hR
    dsimp only [List.drop]
    have hL1 : (St la).length = la.length := by simp [St, Str.length]
    have hL2 : (St lb).length = la.length := by simp [St, Str.length, hS.len]
    refine wpAny_execs_cons ?_
    with_unfolding_all refine' For_invVF F' ?k1 ?k2 ?_
    case k1 => rfl
    case k2 => rfl
    walk_at "to iter"
    rename IsRange _ _ _ _ _ _ _ _ => hr
    simp only [hL2] at hr
    with_unfolding_all refine' kst_range (σ := Int × Tok × List Value × Nat) (fun c => (D, listOf c.2.2.1.toArray c.2.2.2) :: news) (fun c => [(Str.ofString "result", .int c.1 c.2.1)]) (fun _ => True) [Str.ofString "bchar", Str.ofString "distance", Str.ofString "minimum", Str.ofString "index", Str.ofString "substitute", Str.ofString "insert_delete"] (fun pre c => OutInv la lb pre.length c.1 c.2.2.1) (0, tr, us, cc) rfl hr (smallN (by omega)) rangeN ?kF ?kN trivial ?kk ?kp ?turn ?done
    case kF => k_asm
    case kN => k_asm
    case kk => kst_all
    case kp => exact ⟨hI, fun h => absurd rfl h⟩
    · rintro ⟨r, tr', us1, cc1⟩ pre k t u1 h1 tk1 own hk1 hlt1 hoff _ hP F1 N1
      dsimp only at hP F1 N1
      simp only [List.cons_append] at N1
      have hne1 : ∀ p ∈ news ++ own, p.1 ≠ D := fun p hp => (List.mem_append.mp hp).elim (fun h => Nat.ne_of_lt (hlt p h)) fun h => hoff p h D (.head _)
      obtain ⟨hrow, hres⟩ := hP
      have hlr : (rowAt la lb pre.length 0).length = la.length := rowAt_length ..
      generalize hi : pre.length = i at *
      walk_at "to for"
      rename Fr _ _ _ _ => F2
      with_unfolding_all refine' For_invVF F2 ?k1b ?k2b ?_
      case k1b => rfl
      case k2b => rfl
      walk_at "to iter"
      rename IsRange _ _ _ _ _ _ _ _ => hr2
      simp only [hL1] at hr2
      with_unfolding_all refine' kst_range (σ := Int × Tok × Int × Tok × Int × Tok × List Value × Nat) (fun c => (D, listOf c.2.2.2.2.2.2.1.toArray c.2.2.2.2.2.2.2) :: (news ++ own)) (fun c => [(Str.ofString "distance", .int c.1 c.2.1), (Str.ofString "result", .int c.2.2.1 c.2.2.2.1), (Str.ofString "minimum", .int c.2.2.2.2.1 c.2.2.2.2.2.1)]) (fun _ => True) [Str.ofString "substitute", Str.ofString "insert_delete"] (fun pre c => InInv la lb i pre.length c.1 c.2.2.1 c.2.2.2.2.1 c.2.2.2.2.2.2.1) (_, _, _, _, _, _, us1, cc1) rfl hr2 (smallN (by omega)) rangeN ?kFb ?kNb trivial ?kkb ?kpb ?turnb ?doneb
      case kFb => k_asm
      case kNb => k_asm
      case kkb => kst_all
      case kpb =>
        refine ⟨hrow, ?_, ?_, fun h => absurd h (Nat.not_lt_zero _)⟩
        · dsimp only [List.length_nil]; rw [Dm_ge (Nat.zero_le _)]; simp only [Hm]; omega
        · dsimp only [List.length_nil]; rw [if_pos rfl]; omega
      · rintro ⟨d, td, r2, tr2, mn, tmn, us2, cc2⟩ pre2 k2 t2 u2 h2 tk2 own2 hk2 hlt2 hoff2 _ hP2 F3 N3
        dsimp only at hP2 F3 N3
        simp only [List.cons_append] at N3
        have hne2 : ∀ p ∈ news ++ own ++ own2, p.1 ≠ D := fun p hp => (List.mem_append.mp hp).elim (fun h => hne1 p h) fun h => hoff2 p h D (.head _)
        obtain ⟨hrow2, hd2, hr22, hmn2⟩ := hP2
        have hlr2 : (rowAt la lb i pre2.length).length = la.length := rowAt_length ..
        generalize hj : pre2.length = j at *
        k_steps
        all_goals (
          unfold Halt
          (rename News _ _ _ _ => nE)
          refine' kst_end (_, _, _, _, _, _, _, _) (by assumption) nE ?hn ?ho ?ha trivial ?hk ?hr ?hp
          case hn => exact led_sub
          case ho => exact led_own
          case ha => rfl
          case hk => kst_all
          case hr => kst_same
          case hp =>
            dsimp only
            refine inn_close hS hlt1 hlt2 hrow2 hd2 hr22 hmn2 (by omega) (by omega) rfl rfl ?_ (by assumption) (by simp [hj])
            first | exact .inl ⟨by assumption, rfl⟩ | exact .inr ⟨by assumption, rfl⟩)
      · rintro ⟨d, td, r2, tr2, mn, tmn, us2, cc2⟩ u2 h2 tk2 _ hP2 F3 N3
        dsimp only at hP2 F3 N3
        rw [rangeKs_length] at hP2
        obtain ⟨hrow2, hd2, hr22, hmn2⟩ := hP2
        have hmc : mn ≤ c := Int.le_trans (hmn2 hlt1) (Int.le_trans (Hm_ham hlt1) hc)
        rw [if_neg (by omega)] at hr22
        rw [rowAt_full] at hrow2
        k_steps
        all_goals (
          unfold Halt
          (rename News _ _ _ _ => nE)
          refine' kst_end (_, _, _, _) (by assumption) nE ?hn ?ho ?ha trivial ?hk ?hr ?hp
          case hn => exact led_sub
          case ho => exact led_own
          case ha => rfl
          case hk => kst_all
          case hr => kst_same
          case hp =>
            dsimp only
            have e9 : (pre ++ [k]).length = i + 1 := by simp [hi]
            rw [e9]
            exact ⟨hrow2, fun _ => hr22⟩)
    · rintro ⟨r, tr', us1, cc1⟩ u1 h1 tk1 _ hP F1 N1
      dsimp only at hP F1 N1
      rw [rangeKs_length] at hP
      have hr9 := hP.res (by omega)
      rw [Dm_ham, hham] at hr9
      k_steps
      all_goals exact ret_int hret (by assumption) (cb_drop (by assumption) fun p hp => .tail _ hp) hr9.symm
end
section
theorem words3 : True := by
  w_top off
  k_with_none
  k_with "call ref" => (k_here; (with_reducible show wpAny _ _ (PySem.call (Value.ref 49) _) _ _ _); (with_unfolding_all refine' Spec.useI (subst_spec _ _ _ _ _ ?_ ?_) ?_ ?_ ?_ ?_ ?_ ?_ ?_ ?_ ?_); (repeat ((fail_if_success (refine (show (_ : Prop) from ?_))); rotate_left 1)); (· (exact Nat.le_refl 1)); (· (exact Nat.le_refl 1)); (· (k_asm)); (· (k_asm)); (· (k_asm)); (· (k_asm)); (· (k_asm)); (· (first | exact rfl | assumption)); (· (ktr_room)); (· (ktr_units)); k_whole; intro tkx hkx tkkx Fkx Nkx; (try dsimp only); (try k_fold))
  k_with "call type:list" => (k_here; (with_reducible show wpAny _ _ (PySem.call (Value.type "list") [Value.ref _]) _ _ _); (rename IsRange _ _ _ _ 2 _ _ _ => rgX); (with_unfolding_all refine' list_step2' ?_ ?_ ?_ rgX ?_ ?_); (repeat ((fail_if_success (refine (show (_ : Prop) from ?_))); rotate_left 1)); (· (rfl)); (· (k_asm)); (· (k_asm)); (· (omega)); k_whole; intro Dkx vskx ckx hkx tkkx Fkx Nkx l1 hIkx; (try k_lt l1); (try k_sweep))
  k_with "to iter" => (repeat' ((fail_if_success (with_reducible show wpAny _ _ (PySem.pyIter _) _ _ _)); first | (k_unfold; (try dsimp only)) | walk1 | (dsimp only; walk1)))
  k_with "InvEndN" => (refine halt ?_)
  k_with "to for" => (repeat' ((fail_if_success (with_reducible show wpAny _ _ (PySem.exec (PySem.Stmt.For _ _ _ _ _) _) _ _ _)); first | (k_unfold; (try dsimp only)) | walk1 | (dsimp only; walk1)))
  k_with "to while" => (repeat' ((fail_if_success (with_reducible show wpAny _ _ (PySem.exec (PySem.Stmt.While _ _ _ _) _) _ _ _)); first | (k_unfold; (try dsimp only)) | walk1 | (dsimp only; walk1)))
  k_with "KswEnd" => (refine halt ?_)
  k_with "subscriptTail Name Slice str ref" => ((with_reducible show wpAny _ _ (subscriptTail _ (PySem.Expr.Slice none (some (PySem.Expr.BoolOp _ _ _)) none _) _ _) _ _ _); (with_reducible rename Fr _ _ _ _ => Fkx); (with_reducible rename News _ _ _ _ => Nkx); refine slice_nn (s := ⟨_, _, _, _, _⟩) Fkx Nkx ?_; intro _ _ _ _ _)
  k_with "to ite" => (repeat' ((fail_if_success (with_reducible show @ite Prop (true = true) _ _ _)); (fail_if_success (with_reducible show @ite Prop (false = true) _ _ _)); first | (k_unfold; (try dsimp only)) | walk1 | (dsimp only; walk1)))
  k_with "binaryOp Add ref ref" => (k_here; (with_reducible show wpAny _ _ (binaryOp _ (Value.ref _) (Value.ref _)) _ _ _); k_dflt (refine' kmk_add_lit ?_ ?_ ?_ ?_ ?_ ?_ ?_; (repeat ((fail_if_success (refine (show (_ : Prop) from ?_))); rotate_left 1)); (· (k_asm)); (· (k_asm)); (· (kmk_list)); (· (kmk_list)); (· (rfl)); rotate_left 1; (· ((rw [PySem.sizeLine_eq]; simp only [List.length_append, List.length_cons, List.length_nil]; omega))); k_whole); intro Dkx hkx Fkx Nkx l1; have l2 := l1; (try k_lt l1))
  trivial
set_option pp.maxSteps 3000 in
theorem euclid_spec (w : World) (a b : Int) (ta tb : Tok) (ha : 0 < a) (hb : 0 < b) (hab : a + b = 16) :
    Spec2 w 4 70 [.int a ta, .int b tb] (IsEu (eu 16 a b [])) := by
  unfold Spec2
  intro loose mean mg mb news dp un gd cn cs ad ccd cl outer A₀ base h₀ L m s0 Q E B F X N T hk hdp hun hret
  refine wpAny_call ?_
  k_dflt cell_enter
  rename_i g L' h' FG' F' N' B' X' T'
  walk_at "to while"
  rename Fr _ _ _ _ => F2
  rename News _ _ _ _ => N2
  with_unfolding_all refine' ksw_while (σ := Int × Tok × Int × Tok × Addr × List Value × Nat × List Bool) (fun c => (c.2.2.2.2.1, listOf c.2.2.2.2.2.1.toArray c.2.2.2.2.2.2.1) :: news) (fun c => [(Str.ofString "leap", .int c.1 c.2.1), (Str.ofString "rest", .int c.2.2.1 c.2.2.2.1), (Str.ofString "pairs", .ref c.2.2.2.2.1)]) (fun c => StrsAre c.2.2.2.2.2.1 (strs2 c.2.2.2.2.2.2.2)) [] (fun c => EuInv a b c.1 c.2.2.1 c.2.2.2.2.2.2.2) (fun c => (c.1 + c.2.2.1).toNat) (a, ta, b, tb, _, [], 0, []) F2 N2 StrsAre.nil ?kkw ?kpw ?turnw
  case kkw => kst_all
  case kpw => exact ⟨ha, hb, by dsimp only [List.length_nil]; omega, 16, by dsimp only; omega, rfl⟩
  rintro ⟨x, tx, y, ty, D, vs, n, acc⟩ u1 h1 tk1 hs hP F3 N3
  dsimp only at hs hP F3 N3
  clear F2 N2
  have hx := hP.pa
  have hy := hP.pb
  have hxy := hP.le
  have hvl : vs.length ≤ 32 := by rw [strsAre_length hs, strs2_length]; omega
  k_steps
  all_goals first
    | (unfold Halt
       (rename News _ _ _ _ => nE)
       refine' ksw_end (x, tx, y - x, _, _, _, _, true :: acc) (by assumption) nE ?hn ?hf ?hk ?hr ?hp ?hm
       case hn => exact led_first fun p hp => .tail _ (.tail _ hp)
       case hf => exact strs_more true rfl hs
       case hk => kst_all
       case hr =>
         intro z h2 h3
         simp only [List.forall_mem_cons, List.not_mem_nil, false_implies, implies_true, and_true, ne_eq] at h2
         simp [kstB, h2]
       case hp => exact hP.lt (by assumption)
       case hm => exact eu_less hx hy)
    | (unfold Halt
       (rename News _ _ _ _ => nE)
       refine' ksw_end (x - y, _, y, ty, _, _, _, false :: acc) (by assumption) nE ?hn ?hf ?hk ?hr ?hp ?hm
       case hn => exact led_first fun p hp => .tail _ (.tail _ hp)
       case hf => exact strs_more false rfl hs
       case hk => kst_all
       case hr =>
         intro z h2 h3
         simp only [List.forall_mem_cons, List.not_mem_nil, false_implies, implies_true, and_true, ne_eq] at h2
         simp [kstB, h2]
       case hp => exact hP.gt (by assumption) (by assumption)
       case hm => exact eu_less' hx hy)
    | ((have he : x = y := by first | assumption | omega)
       subst he
       (rename News _ _ _ _ => nE)
       have hO := hP.out
       refine ret2 hret [(_, { cls := .type "tuple", data := .seq #[.ref D, .int x tx] }), (D, listOf vs.toArray n)] (by assumption) nE ⟨_, D, vs, n, tx, rfl, by rw [hO], by rw [hO]; exact hs⟩ (fun p hp => hp))
end
section
theorem words4 : True := by
  w_top off
  k_with_none
  k_with "call ref" => (k_here; (with_reducible show wpAny _ _ (PySem.call (Value.ref 49) _) _ _ _); (with_unfolding_all refine' Spec.useI (subst_spec _ _ _ _ _ ?_ ?_) ?_ ?_ ?_ ?_ ?_ ?_ ?_ ?_ ?_); (repeat ((fail_if_success (refine (show (_ : Prop) from ?_))); rotate_left 1)); (· (exact Nat.le_refl 1)); (· (exact Nat.le_refl 1)); (· (k_asm)); (· (k_asm)); (· (k_asm)); (· (k_asm)); (· (k_asm)); (· (first | exact rfl | assumption)); (· (ktr_room)); (· (ktr_units)); k_whole; intro tkx hkx tkkx Fkx Nkx; (try dsimp only); (try k_fold))
  k_with "call type:list" => (k_here; (with_reducible show wpAny _ _ (PySem.call (Value.type "list") [Value.ref _]) _ _ _); (rename IsRange _ _ _ _ 2 _ _ _ => rgX); (with_unfolding_all refine' list_step2' ?_ ?_ ?_ rgX ?_ ?_); (repeat ((fail_if_success (refine (show (_ : Prop) from ?_))); rotate_left 1)); (· (rfl)); (· (k_asm)); (· (k_asm)); (· (omega)); k_whole; intro Dkx vskx ckx hkx tkkx Fkx Nkx l1 hIkx; (try k_lt l1); (try k_sweep))
  k_with "to iter" => (repeat' ((fail_if_success (with_reducible show wpAny _ _ (PySem.pyIter _) _ _ _)); first | (k_unfold; (try dsimp only)) | walk1 | (dsimp only; walk1)))
  k_with "InvEndN" => (refine halt ?_)
  k_with "to for" => (repeat' ((fail_if_success (with_reducible show wpAny _ _ (PySem.exec (PySem.Stmt.For _ _ _ _ _) _) _ _ _)); first | (k_unfold; (try dsimp only)) | walk1 | (dsimp only; walk1)))
  k_with "to while" => (repeat' ((fail_if_success (with_reducible show wpAny _ _ (PySem.exec (PySem.Stmt.While _ _ _ _) _) _ _ _)); first | (k_unfold; (try dsimp only)) | walk1 | (dsimp only; walk1)))
  k_with "KswEnd" => (refine halt ?_)
  k_with "subscriptTail Name Slice str ref" => ((with_reducible show wpAny _ _ (subscriptTail _ (PySem.Expr.Slice none (some (PySem.Expr.BoolOp _ _ _)) none _) _ _) _ _ _); (with_reducible rename Fr _ _ _ _ => Fkx); (with_reducible rename News _ _ _ _ => Nkx); refine slice_nn (s := ⟨_, _, _, _, _⟩) Fkx Nkx ?_; intro _ _ _ _ _)
  k_with "to ite" => (repeat' ((fail_if_success (with_reducible show @ite Prop (true = true) _ _ _)); (fail_if_success (with_reducible show @ite Prop (false = true) _ _ _)); first | (k_unfold; (try dsimp only)) | walk1 | (dsimp only; walk1)))
  k_with "truthy ref" => (k_here; (with_reducible show wpAny _ _ (truthy (Value.ref _)) _ _ _); k_dflt (refine' ktl_truthyK ?_ ?_ ?_ ?_; (repeat ((fail_if_success (refine (show (_ : Prop) from ?_))); rotate_left 1)); (· (k_asm)); (· (k_mem)); (· (((simp only [List.length_cons]); omega))); k_whole); (try simp only [List.isEmpty_cons, List.isEmpty_nil, Bool.not_false, Bool.not_true]))
  k_with "subscriptTail" => (k_here; (with_reducible show wpAny _ _ (subscriptTail _ _ (Value.ref _) (Value.int 0 _)) _ _ _); (with_unfolding_all refine' tup_item0 ?_ ?_ ?_; (repeat ((fail_if_success (refine (show (_ : Prop) from ?_))); rotate_left 1)); (· (k_asm)); (· (k_mem)); k_whole))
  k_with "subscriptTail" => (k_here; (with_reducible show wpAny _ _ (subscriptTail _ _ (Value.ref _) (Value.int 1 _)) _ _ _); (with_unfolding_all refine' tup_item1 ?_ ?_ ?_; (repeat ((fail_if_success (refine (show (_ : Prop) from ?_))); rotate_left 1)); (· (k_asm)); (· (k_mem)); k_whole))
  k_with "subscriptTail" => (k_here; (with_reducible show wpAny _ _ (subscriptTail _ (PySem.Expr.Slice (some _) none none _) (Value.ref _) (Value.ref _)) _ _ _); (with_unfolding_all refine' tup_slice2 (s := ⟨_, _, _, _, _⟩) ?_ ?_ ?_ ?_ ?_; (repeat ((fail_if_success (refine (show (_ : Prop) from ?_))); rotate_left 1)); (· (k_asm)); (· (k_asm)); (· (k_mem)); (· (omega)); k_whole); intro Dkx hkx l1 Fkx Nkx; (try k_lt l1))
  k_with "call builtin:str.split" => (k_here; (with_reducible show wpAny _ _ (PySem.call (Value.builtin "str.split") [Value.str _ _, Value.str (sepOf _) _]) _ _ _); (refine splitN1 (by k_asm) (by k_asm) (sepOf_length _) ?_ (by rw [PySem.sizeLine_eq]; omega)); intro lkx hkx kkx ekx Fkx Nkx)
  k_with "call builtin:str.join" => (k_here; (with_reducible show wpAny _ _ (PySem.call (Value.builtin "str.join") [Value.str _ _, Value.ref _]) _ _ _); (refine SC.join (PySem.IsL.isList (n := 0) (News.get (by k_asm) (List.Mem.head _))) (by assumption) (by assumption) ?_); intro tkx kkx; (try dsimp only))
  trivial
theorem replace_spec (w : World) (x : Str) (tx : Tok) (vs : List Value) (l : List Bool) (hs : StrsAre vs (strs2 l)) (hl : l.length ≤ 16) (hok : okChain x l = true) :
    Spec2 w 4 35 (.str x tx :: vs) (IsStr (l.foldl stepR x)) := by
  unfold Spec2
  intro loose mean mg mb news dp un gd cn cs ad ccd cl outer A₀ base h₀ L m s0 Q E B F X N T hk hdp hun hret
  have hvl : vs.length ≤ 32 := by rw [strsAre_length hs, strs2_length]; omega
  refine wpAny_call ?_
  k_dflt (refine' kp_rest ?k1 ?k2 ?k3 ?k4 ?k5 ?kA ?kF ?kK ?k6 ?k7 ?k8 ?kV ?kP ?kG ?kB ?_ ?c2 ?c3 ?c4 ?c5; (case kA => exact rfl); (case kF => exact rfl); (case kK => assumption); (case k1 => k_asm); (case k2 => k_asm); (case k3 => k_asm); (case k4 => k_asm); (case k5 => k_asm); (case k6 => k_is); (case k7 => k_is); (case k8 => ktr_room); (case kV => exact rfl))
  case kP =>
    have hnt : newTuple vs = (alloc { cls := .type "tuple", data := .seq vs.toArray } >>= fun a => pure (Value.ref a)) := by
      unfold newTuple newObj
      simp only [List.size_toArray]
      rw [if_neg (by rw [sizeLine_eq]; omega)]
      rfl
    unfold bindArgs
    dsimp only [fnOf, fnX]
    simp only [Option.isNone_some, Bool.and_false, List.map_cons, List.map_nil, List.nil_append, List.zip_cons_cons, List.zip_nil_left, List.length_cons, List.length_nil, List.drop_succ_cons, List.drop_zero, Nat.zero_add, hnt]
    exact rfl
  case kG => exact fun _ => rfl
  case kB => exact fun _ => locs rfl
  case c5 => decide
  case c2 => exact rfl
  case c3 => exact rfl
  case c4 => exact rfl
  intro D' g' L' h' l1 FG' F' N' B' X' T'
  (try dsimp only); (try k_lift B'); (try k_fold)
  walk_at "to while"
  with_unfolding_all refine' ksw_while (σ := Str × Tok × Addr × List Value × List Bool) (fun c => (c.2.2.1, ({ cls := .type "tuple", data := .seq c.2.2.2.1.toArray } : Obj)) :: news) (fun c => [(Str.ofString "text", .str c.1 c.2.1), (Str.ofString "pairs", .ref c.2.2.1)]) (fun c => StrsAre c.2.2.2.1 (strs2 c.2.2.2.2)) [] (fun c => RepInv x l c.1 c.2.2.2.2) (fun c => c.2.2.2.2.length) (x, tx, D', vs, l) F' N' hs ?kkw ?kpw ?turnw
  case kkw => kst_all
  case kpw => exact ⟨hl, hok, rfl⟩
  rintro ⟨y, ty, D, us, r⟩ u1 h1 tk1 hs1 hP F3 N3
  dsimp only at hs1 hP F3 N3
  clear F' N' F N l1 hs hvl
  cases r with
  | nil =>
    cases hs1
    k_steps
    all_goals exact ret2 hret [] (by assumption) (by assumption) ⟨rfl, ty, by rw [← hP.eq]; rfl⟩ (fun p hp => .tail _ hp)
  | cons b r =>
    obtain ⟨t0, t1, us', rfl, hs2⟩ : ∃ t0 t1 us', us = .str (sepOf b) t0 :: .str (Str.ofString "aA") t1 :: us' ∧ StrsAre us' (strs2 r) := by
      cases hs1 with | cons _ t0 h => cases h with | cons _ t1 h => exact ⟨t0, t1, _, rfl, h⟩
    clear hs1
    have hul : us'.length ≤ 32 := by rw [strsAre_length hs2, strs2_length]; have := hP.len; simp only [List.length_cons] at this; omega
    obtain ⟨hyl, hjo, hP2⟩ := hP.next
    clear hP
    k_steps
    all_goals (
      unfold Halt
      (rename News _ _ _ _ => nE)
      refine' ksw_end (stepR y b, _, _, us', r) (by assumption) nE ?hn hs2 ?hk ?hr hP2 ?hm
      case hn => exact led_first fun p hp => .tail _ (.tail _ hp)
      case hk => kst_all
      case hr =>
        intro z h2 h3
        simp only [List.forall_mem_cons, List.not_mem_nil, false_implies, implies_true, and_true, ne_eq] at h2
        simp [kstB, h2]
      case hm => exact Nat.lt_succ_self _)
end
section
theorem words5 : True := by
  w_top off
  k_with_none
  k_with "call ref" => (k_here; (with_reducible show wpAny _ _ (PySem.call (Value.ref 49) _) _ _ _); (with_unfolding_all refine' Spec.useI (subst_spec _ _ _ _ _ ?_ ?_) ?_ ?_ ?_ ?_ ?_ ?_ ?_ ?_ ?_); (repeat ((fail_if_success (refine (show (_ : Prop) from ?_))); rotate_left 1)); (· (exact Nat.le_refl 1)); (· (exact Nat.le_refl 1)); (· (k_asm)); (· (k_asm)); (· (k_asm)); (· (k_asm)); (· (k_asm)); (· (first | exact rfl | assumption)); (· (ktr_room)); (· (ktr_units)); k_whole; intro tkx hkx tkkx Fkx Nkx; (try dsimp only); (try k_fold))
  k_with "call type:list" => (k_here; (with_reducible show wpAny _ _ (PySem.call (Value.type "list") [Value.ref _]) _ _ _); (rename IsRange _ _ _ _ 2 _ _ _ => rgX); (with_unfolding_all refine' list_step2' ?_ ?_ ?_ rgX ?_ ?_); (repeat ((fail_if_success (refine (show (_ : Prop) from ?_))); rotate_left 1)); (· (rfl)); (· (k_asm)); (· (k_asm)); (· (omega)); k_whole; intro Dkx vskx ckx hkx tkkx Fkx Nkx l1 hIkx; (try k_lt l1); (try k_sweep))
  k_with "to iter" => (repeat' ((fail_if_success (with_reducible show wpAny _ _ (PySem.pyIter _) _ _ _)); first | (k_unfold; (try dsimp only)) | walk1 | (dsimp only; walk1)))
  k_with "InvEndN" => (refine halt ?_)
  k_with "to for" => (repeat' ((fail_if_success (with_reducible show wpAny _ _ (PySem.exec (PySem.Stmt.For _ _ _ _ _) _) _ _ _)); first | (k_unfold; (try dsimp only)) | walk1 | (dsimp only; walk1)))
  k_with "to while" => (repeat' ((fail_if_success (with_reducible show wpAny _ _ (PySem.exec (PySem.Stmt.While _ _ _ _) _) _ _ _)); first | (k_unfold; (try dsimp only)) | walk1 | (dsimp only; walk1)))
  k_with "KswEnd" => (refine halt ?_)
  k_with "subscriptTail Name Slice str ref" => ((with_reducible show wpAny _ _ (subscriptTail _ (PySem.Expr.Slice none (some (PySem.Expr.BoolOp _ _ _)) none _) _ _) _ _ _); (with_reducible rename Fr _ _ _ _ => Fkx); (with_reducible rename News _ _ _ _ => Nkx); refine slice_nn (s := ⟨_, _, _, _, _⟩) Fkx Nkx ?_; intro _ _ _ _ _)
  k_with "to ite" => (repeat' ((fail_if_success (with_reducible show @ite Prop (true = true) _ _ _)); (fail_if_success (with_reducible show @ite Prop (false = true) _ _ _)); first | (k_unfold; (try dsimp only)) | walk1 | (dsimp only; walk1)))
  k_with "to compsrc" => (repeat' ((fail_if_success (with_reducible show LCg.CompSrc _ _ _ _ _ _ _ _ _ _ _ _ _ _)); first | (k_unfold; (try dsimp only)) | walk1 | (dsimp only; walk1)))
  k_with "KCtEl" => (refine halt ?_)
  k_with "call builtin:str.join" => (k_here; (with_reducible show wpAny _ _ (PySem.call (Value.builtin "str.join") [Value.str _ _, Value.ref _]) _ _ _); (refine join_led (by k_asm) (List.Mem.head _) (by assumption) (by assumption) ?_); intro tkx kkx; (try dsimp only))
  trivial
theorem dressed_spec (w : World) (l : List Nat) (tx : Tok) (hl : l.length ≤ 16) :
    Spec2 w 4 75 [.str (St l) tx] (IsStr (dressOf l)) := by
  unfold Spec2
  intro loose mean mg mb news dp un gd cn cs ad ccd cl outer A₀ base h₀ L m s0 Q E B F X N T hk hdp hun hret
  have hL1 : (St l).length = l.length := St_length _
  refine wpAny_call ?_
  k_dflt (refine' code_defC ?k1 ?k2 ?k3 ?k4 ?k5 ?kA ?kF ?kK ?k6 ?k7 ?k8 ?k9 ?kB ?kD ?_ ?c2 ?c3 ?c4; (case kA => exact rfl); (case kF => exact rfl); (case kK => assumption); (case k1 => k_asm); (case k2 => k_asm); (case k3 => k_asm); (case k4 => k_asm); (case k5 => k_asm); (case k6 => k_is); (case k7 => k_is); (case k8 => ktr_room); (case k9 => exact BindsTo.of_eq rfl); (case kB => exact rfl); (case kD => decide +kernel); (case c2 => exact rfl); (case c3 => exact rfl); (case c4 => exact rfl); k_whole)
  intro g' L' h' tk' cells' FG' F' N' Y' B' X' T' l1
  k_cells Y'
  (try simp only [List.cons_append, List.nil_append] at N'); (try dsimp only); (try k_lift B'); (try k_fold)
  walk_at "to compsrc"
  rename IsRange _ _ _ _ _ _ _ _ => hr
  with_unfolding_all refine LCg.CompSrc.range (by rfl) (by k_asm) (by k_asm) hr (small_one (by omega) (by omega) (by omega) (by omega)) (rangeSize_nat _ _) (by rw [PySem.sizeLine_eq]; omega) ?_
  intro g9
  refine' kct_range (dressCh l) (fun k' t' I' oI' C' oC' D' m' ys' h' tk' E' hlo' hhi' hC' hx' F' N' off' ne' hMark' => ?_) ?_
  · have hk9 : k' < (l.length : Int) := by clear off' ne'; omega
    have hk8 : k' < ((St l).length : Int) := by clear off' ne' hhi'; omega
    have hk7 : k' < 16 := by clear off' ne' hhi' hk8; omega
    clear hhi'
    have off0 := off'
    simp only [LCg.Off3, and_true] at off'
    k_steps
    all_goals (
      refine LCg.CompEnd.intro (by assumption) (by assumption) _ (fun p hp => hp) off0 (by first | lcg_src | assumption) (kct_el ?_ rfl rfl)
      unfold dressCh
      first | rw [if_pos (by assumption)] | rw [if_neg (by simp_all)])
  · unfold KPfDone
    intro ys hC _
    have hS := strs_of_carried hC
    have hsum : (((rangeKs 0 (((St l).length : Int) - 0).toNat).map (dressCh l)).map (·.length)).sum ≤ 1000 := by rw [dress_sum, rangeKs_length]; omega
    clear hC
    k_steps
    all_goals exact ret2 hret [] (by assumption) (by assumption) ⟨rfl, _, by unfold dressOf; rw [show (((St l).length : Int) - 0).toNat = l.length from by omega]⟩ (fun p hp => .tail _ (.tail _ hp))
end
end
section
theorem words6 : True := by
  w_top off
  k_with_none
  trivial
theorem kc_nine {cm : Str → Option Value} {n₁ n₂ n₃ n₄ n₅ n₆ n₇ n₈ n₉ : Str} {c₁ c₂ c₃ c₄ c₅ c₆ c₇ c₈ c₉ : Addr} {cells : List (Addr × Obj)} (x : CellsAre cm [(n₁, c₁), (n₂, c₂), (n₃, c₃), (n₄, c₄), (n₅, c₅), (n₆, c₆), (n₇, c₇), (n₈, c₈), (n₉, c₉)] cells) :
    ∃ o₁ o₂ o₃ o₄ o₅ o₆ o₇ o₈ o₉, cells = [(c₁, o₁), (c₂, o₂), (c₃, o₃), (c₄, o₄), (c₅, o₅), (c₆, o₆), (c₇, o₇), (c₈, o₈), (c₉, o₉)] ∧ o₁.data = .cell (cm n₁) ∧ o₂.data = .cell (cm n₂) ∧ o₃.data = .cell (cm n₃) ∧ o₄.data = .cell (cm n₄) ∧ o₅.data = .cell (cm n₅) ∧ o₆.data = .cell (cm n₆) ∧ o₇.data = .cell (cm n₇) ∧ o₈.data = .cell (cm n₈) ∧ o₉.data = .cell (cm n₉) := by
  cases x with | cons h r => obtain ⟨o₂, o₃, o₄, o₅, o₆, o₇, o₈, o₉, rfl, h₂, h₃, h₄, h₅, h₆, h₇, h₈, h₉⟩ := kc_eight r; exact ⟨_, o₂, o₃, o₄, o₅, o₆, o₇, o₈, o₉, rfl, h, h₂, h₃, h₄, h₅, h₆, h₇, h₈, h₉⟩
inductive KcTen (cm : Str → Option Value) (n₁ n₂ n₃ n₄ n₅ n₆ n₇ n₈ n₉ n₀ : Str) (c₁ c₂ c₃ c₄ c₅ c₆ c₇ c₈ c₉ c₀ : Addr) (cells : List (Addr × Obj)) : Prop
  | mk (o₁ o₂ o₃ o₄ o₅ o₆ o₇ o₈ o₉ o₀ : Obj) (e : cells = [(c₁, o₁), (c₂, o₂), (c₃, o₃), (c₄, o₄), (c₅, o₅), (c₆, o₆), (c₇, o₇), (c₈, o₈), (c₉, o₉), (c₀, o₀)]) (d₁ : o₁.data = .cell (cm n₁)) (d₂ : o₂.data = .cell (cm n₂)) (d₃ : o₃.data = .cell (cm n₃)) (d₄ : o₄.data = .cell (cm n₄)) (d₅ : o₅.data = .cell (cm n₅)) (d₆ : o₆.data = .cell (cm n₆)) (d₇ : o₇.data = .cell (cm n₇)) (d₈ : o₈.data = .cell (cm n₈)) (d₉ : o₉.data = .cell (cm n₉)) (d₀ : o₀.data = .cell (cm n₀)) : KcTen cm n₁ n₂ n₃ n₄ n₅ n₆ n₇ n₈ n₉ n₀ c₁ c₂ c₃ c₄ c₅ c₆ c₇ c₈ c₉ c₀ cells
theorem kc_ten {cm : Str → Option Value} {n₁ n₂ n₃ n₄ n₅ n₆ n₇ n₈ n₉ n₀ : Str} {c₁ c₂ c₃ c₄ c₅ c₆ c₇ c₈ c₉ c₀ : Addr} {cells : List (Addr × Obj)} (x : CellsAre cm [(n₁, c₁), (n₂, c₂), (n₃, c₃), (n₄, c₄), (n₅, c₅), (n₆, c₆), (n₇, c₇), (n₈, c₈), (n₉, c₉), (n₀, c₀)] cells) :
    KcTen cm n₁ n₂ n₃ n₄ n₅ n₆ n₇ n₈ n₉ n₀ c₁ c₂ c₃ c₄ c₅ c₆ c₇ c₈ c₉ c₀ cells := by
  cases x with | cons h r => obtain ⟨o₂, o₃, o₄, o₅, o₆, o₇, o₈, o₉, o₀, rfl, h₂, h₃, h₄, h₅, h₆, h₇, h₈, h₉, h₀⟩ := kc_nine r; exact ⟨_, o₂, o₃, o₄, o₅, o₆, o₇, o₈, o₉, o₀, rfl, h, h₂, h₃, h₄, h₅, h₆, h₇, h₈, h₉, h₀⟩
theorem slice_six {prog : Program} {w : World} {A : Around} {E : Value → Shared → Prop} {s : Shared} {h₀ : Heap} {L l : Addr} {m : Str → Option Value} {news : List (Addr × Obj)} {value slice : PySem.Expr} {k : Int} {u t1 t2 t3 t4 t5 t6 : Tok} {c : Nat} {Q : Value → Shared → Prop}
    (F : Fr h₀ L s.heap m) (N : News h₀ L s.heap news) (hm : (l, listOf #[.int 22 t1, .int 5 t2, .int 24 t3, .int 17 t4, .int 9 t5, .int 30 t6] c) ∈ news) (h0 : 0 ≤ k)
    (h : ∀ D ws h', Fr h₀ L h' m → News h₀ L h' ((D, listOf (List.toArray ws) 0) :: news) → (∀ p ∈ news, p.1 < D) → IntsAre ws (([22, 5, 24, 17, 9, 30] : List Int).drop k.toNat) → Q (.ref D) { s with heap := h' })
    (hs : subscripted slice false (.ref l) (.ref s.heap.objs.size) = operate [.ref s.heap.objs.size, .ref l] (getItem (.ref l) (.ref s.heap.objs.size)) := by with_unfolding_all rfl) (ht : ∀ r, letTemporaryGo value (.ref l) r = pure () := by intro _; with_unfolding_all rfl) :
    wpAny (model prog w) A (subscriptTail value slice (.ref l) (.ref s.heap.objs.size)) Q E { s with heap := s.heap.push { cls := .type "slice", data := .fields #[.int k u, .none, .none] } } := by
  have hI : IntsAre [.int 22 t1, .int 5 t2, .int 24 t3, .int 17 t4, .int 9 t5, .int 30 t6] [22, 5, 24, 17, 9, 30] := .cons _ _ (.cons _ _ (.cons _ _ (.cons _ _ (.cons _ _ (.cons _ _ .nil)))))
  exact kmk_slice_ints (vs := [.int 22 t1, .int 5 t2, .int 24 t3, .int 17 t4, .int 9 t5, .int 30 t6]) F N (PySem.IsL.isList (n := c) (N _ hm).1) (by kmk_part) (by kmk_part) hI (kmk_from hI h0) rfl (fun D ws h' F' N' l1 hw _ _ => h D ws h' F' N' l1 hw) hs ht (Nat.le_of_ble_eq_true rfl)
theorem eval_six {M : Model} {A : Around} {E : Value → Shared → Prop} {s : Shared} {h₀ : Heap} {L : Addr} {m : Str → Option Value} {news : List (Addr × Obj)} {env : Env} {i1 i2 i3 i4 i5 i6 : Int} {k1 k2 k3 k4 k5 k6 : Nat} {p1 p2 p3 p4 p5 p6 pos : Pos} {Q : Value → Shared → Prop}
    (F : Fr h₀ L s.heap m) (N : News h₀ L s.heap news)
    (h : ∀ D t1 t2 t3 t4 t5 t6 h' tk, Fr h₀ L h' m → News h₀ L h' ((D, listOf #[.int i1 t1, .int i2 t2, .int i3 t3, .int i4 t4, .int i5 t5, .int i6 t6] 0) :: news) → (∀ p ∈ news, p.1 < D) → Q (.ref D) { s with heap := h', toks := tk }) :
    wpAny M A (eval (.List [.Constant (.int i1) k1 p1, .Constant (.int i2) k2 p2, .Constant (.int i3) k3 p3, .Constant (.int i4) k4 p4, .Constant (.int i5) k5 p5, .Constant (.int i6) k6 p6] pos) env) Q E s := by
  refine List_ ?_
  refine spliced_more (wpAny_Constant_int ?_)
  refine spliced_more (wpAny_Constant_int ?_)
  refine spliced_more (wpAny_Constant_int ?_)
  refine spliced_more (wpAny_Constant_int ?_)
  refine spliced_more (wpAny_Constant_int ?_)
  refine spliced_more (wpAny_Constant_int ?_)
  refine spliced_none ?_
  refine newList_N (s := { s with toks := s.toks + 1 + 1 + 1 + 1 + 1 + 1 }) F N (fun h' F' N' => ?_) (Nat.le_of_ble_eq_true rfl)
  exact h _ _ _ _ _ _ _ h' (s.toks + 1 + 1 + 1 + 1 + 1 + 1) F' N' (fun p hp => Heap.lt_size (N p hp).1)
end
section
def lawDef : List Stmt × Scope := match PySem.Challenge.pw_pe0126_01.main.body.drop 17 with
  | .FunctionDef _ _ body _ _ _ scope _ _ _ :: _ => (body, scope)
  | _ => ([], default)
abbrev lawEnv (L fa : Addr) (cd : Value) : Env := envOfC (Str.ofString "law") lawDef.2 L fa cd
abbrev lawA (L fa : Addr) (cd : Value) : Around := callerA.deeper (lawEnv L fa cd)
def stm (j : Nat) : List Stmt := (lawDef.1.drop j).take 1
def CI (i : Int) (o : Obj) : Prop := ∃ t, o.data = .cell (some (.int i t))
def CS (x : Str) (o : Obj) : Prop := ∃ t, o.data = .cell (some (.str x t))
def CR (a : Addr) (o : Obj) : Prop := o.data = .cell (some (.ref a))
def CA (o : Obj) : Prop := ∃ v, o.data = .cell v
theorem CI.any {i : Int} {o : Obj} (h : CI i o) : CA o := ⟨_, h.choose_spec⟩
theorem CS.any {x : Str} {o : Obj} (h : CS x o) : CA o := ⟨_, h.choose_spec⟩
theorem CR.any {a : Addr} {o : Obj} (h : CR a o) : CA o := ⟨_, h⟩
def NoCell (o : Obj) : Prop := ∀ v, o.data ≠ .cell v
theorem noCell_seq {c : Value} {d : Option Addr} {xs : Array Value} {n : Nat} {sl : Array (Option Value)} : NoCell ⟨c, d, .seq xs n, sl⟩ := fun _ h => nomatch h
theorem News.sub {h₀ h : Heap} {L : Addr} {led led' : List (Addr × Obj)} (N : News h₀ L h led) (hs : ∀ p ∈ led', p ∈ led) : News h₀ L h led' := fun p hp => N p (hs p hp)
def cells (L : Addr) (o1 o2 o3 o4 o5 o6 o7 o8 o9 o10 : Obj) : List (Addr × Obj) := [(L + 1, o1), (L + 1 + 1, o2), (L + 1 + 1 + 1, o3), (L + 1 + 1 + 1 + 1, o4), (L + 1 + 1 + 1 + 1 + 1, o5), (L + 1 + 1 + 1 + 1 + 1 + 1, o6), (L + 1 + 1 + 1 + 1 + 1 + 1 + 1, o7), (L + 1 + 1 + 1 + 1 + 1 + 1 + 1 + 1, o8), (L + 1 + 1 + 1 + 1 + 1 + 1 + 1 + 1 + 1, o9), (L + 1 + 1 + 1 + 1 + 1 + 1 + 1 + 1 + 1 + 1, o10)]
inductive LSt (h₀ : Heap) (L : Addr) (s₀ : Shared) (vars : List (Str × Value)) (led : List (Addr × Obj)) (c1 c2 c3 c4 c5 c6 c7 c8 c9 c10 : Obj → Prop) (s : Shared) : Prop
  | mk (u : Str → Option Value) (o1 o2 o3 o4 o5 o6 o7 o8 o9 o10 : Obj) (h : Heap) (tk : Nat) (e : s = { s₀ with heap := h, toks := tk }) (F : Fr h₀ L h (kstB u vars)) (N : News h₀ L h (cells L o1 o2 o3 o4 o5 o6 o7 o8 o9 o10 ++ led)) (d1 : c1 o1) (d2 : c2 o2) (d3 : c3 o3) (d4 : c4 o4) (d5 : c5 o5) (d6 : c6 o6) (d7 : c7 o7) (d8 : c8 o8) (d9 : c9 o9) (d10 : c10 o10) : LSt h₀ L s₀ vars led c1 c2 c3 c4 c5 c6 c7 c8 c9 c10 s
theorem ne_cell {h₀ h : Heap} {L d c : Addr} {o oc : Obj} {led : List (Addr × Obj)} (N : News h₀ L h led) (hd : (d, o) ∈ led) (hc : (c, oc) ∈ led) (ho : NoCell o) (hoc : CA oc) : d ≠ c := fun e => by
  have h1 := (N _ hd).1
  have h2 := (N _ hc).1
  dsimp only at h1 h2
  rw [e, h2] at h1
  cases h1
  obtain ⟨v, hv⟩ := hoc
  exact ho v hv
theorem store_start {M : Model} {h₀ : Heap} {L fa : Addr} {cd : Value} {s₀ s : Shared} {vars : List (Str × Value)} {led : List (Addr × Obj)} {c1 c2 c3 c4 c5 c6 c7 c8 c9 c10 : Obj → Prop} {v : Value} {Q : Unit → Shared → Prop} {E : Value → Shared → Prop}
    (C : Obj → Prop) (P : LSt h₀ L s₀ vars led c1 c2 c3 c4 c5 c6 c7 c8 c9 c10 s) (hc : ∀ o, c1 o → CA o) (hled : ∀ p ∈ led, NoCell p.2) (hC : ∀ o : Obj, o.data = .cell (some v) → C o)
    (h : ∀ s', LSt h₀ L s₀ vars led C c2 c3 c4 c5 c6 c7 c8 c9 c10 s' → Q () s') :
    wpAny M (lawA L fa cd) (storeName (lawEnv L fa cd) (Str.ofString "start") v) Q E s := by
  obtain ⟨u, o1, o2, o3, o4, o5, o6, o7, o8, o9, o10, h', tk, rfl, F, N, d1, d2, d3, d4, d5, d6, d7, d8, d9, d10⟩ := P
  have N9 := N
  obtain ⟨v0, hv0⟩ := hc _ d1
  have hne : ∀ p ∈ led, p.1 ≠ L + 1 := fun p hp => ne_cell N9 (List.mem_append_right _ hp) (List.mem_append_left _ (.head _)) (hled p hp) ⟨v0, hv0⟩
  unfold cells at N
  simp only [List.cons_append, List.nil_append] at N
  dsimp only [lawEnv, lawA, lawDef, PySem.Challenge.pw_pe0126_01, List.drop]
  have key : UpdF (L + 1) o1 ([(L + 1, o1), (L + 1 + 1, o2), (L + 1 + 1 + 1, o3), (L + 1 + 1 + 1 + 1, o4), (L + 1 + 1 + 1 + 1 + 1, o5), (L + 1 + 1 + 1 + 1 + 1 + 1, o6), (L + 1 + 1 + 1 + 1 + 1 + 1 + 1, o7), (L + 1 + 1 + 1 + 1 + 1 + 1 + 1 + 1, o8), (L + 1 + 1 + 1 + 1 + 1 + 1 + 1 + 1 + 1, o9), (L + 1 + 1 + 1 + 1 + 1 + 1 + 1 + 1 + 1 + 1, o10)] ++ led) (fun oN => [(L + 1, oN), (L + 1 + 1, o2), (L + 1 + 1 + 1, o3), (L + 1 + 1 + 1 + 1, o4), (L + 1 + 1 + 1 + 1 + 1, o5), (L + 1 + 1 + 1 + 1 + 1 + 1, o6), (L + 1 + 1 + 1 + 1 + 1 + 1 + 1, o7), (L + 1 + 1 + 1 + 1 + 1 + 1 + 1 + 1, o8), (L + 1 + 1 + 1 + 1 + 1 + 1 + 1 + 1 + 1, o9), (L + 1 + 1 + 1 + 1 + 1 + 1 + 1 + 1 + 1 + 1, o10)] ++ led) := by
    simp only [List.cons_append, List.nil_append]
    refine UpdF.head fun p hp => ?_
    rcases List.mem_cons.mp hp with rfl | hp; exact Nat.ne_of_gt (by show @LT.lt Nat _ _ _; omega)
    rcases List.mem_cons.mp hp with rfl | hp; exact Nat.ne_of_gt (by show @LT.lt Nat _ _ _; omega)
    rcases List.mem_cons.mp hp with rfl | hp; exact Nat.ne_of_gt (by show @LT.lt Nat _ _ _; omega)
    rcases List.mem_cons.mp hp with rfl | hp; exact Nat.ne_of_gt (by show @LT.lt Nat _ _ _; omega)
    rcases List.mem_cons.mp hp with rfl | hp; exact Nat.ne_of_gt (by show @LT.lt Nat _ _ _; omega)
    rcases List.mem_cons.mp hp with rfl | hp; exact Nat.ne_of_gt (by show @LT.lt Nat _ _ _; omega)
    rcases List.mem_cons.mp hp with rfl | hp; exact Nat.ne_of_gt (by show @LT.lt Nat _ _ _; omega)
    rcases List.mem_cons.mp hp with rfl | hp; exact Nat.ne_of_gt (by show @LT.lt Nat _ _ _; omega)
    rcases List.mem_cons.mp hp with rfl | hp; exact Nat.ne_of_gt (by show @LT.lt Nat _ _ _; omega)
    exact hne p hp
  with_unfolding_all refine storeX_C (c := L + 1) F N rfl key hv0 (fun h1 oN F1 N1 d => h _ ⟨u, oN, o2, o3, o4, o5, o6, o7, o8, o9, o10, h1, tk, rfl, F1, N1, hC _ d, d2, d3, d4, d5, d6, d7, d8, d9, d10⟩) rfl rfl
theorem store_leap {M : Model} {h₀ : Heap} {L fa : Addr} {cd : Value} {s₀ s : Shared} {vars : List (Str × Value)} {led : List (Addr × Obj)} {c1 c2 c3 c4 c5 c6 c7 c8 c9 c10 : Obj → Prop} {v : Value} {Q : Unit → Shared → Prop} {E : Value → Shared → Prop}
    (C : Obj → Prop) (P : LSt h₀ L s₀ vars led c1 c2 c3 c4 c5 c6 c7 c8 c9 c10 s) (hc : ∀ o, c2 o → CA o) (hled : ∀ p ∈ led, NoCell p.2) (hC : ∀ o : Obj, o.data = .cell (some v) → C o)
    (h : ∀ s', LSt h₀ L s₀ vars led c1 C c3 c4 c5 c6 c7 c8 c9 c10 s' → Q () s') :
    wpAny M (lawA L fa cd) (storeName (lawEnv L fa cd) (Str.ofString "leap") v) Q E s := by
  obtain ⟨u, o1, o2, o3, o4, o5, o6, o7, o8, o9, o10, h', tk, rfl, F, N, d1, d2, d3, d4, d5, d6, d7, d8, d9, d10⟩ := P
  have N9 := N
  obtain ⟨v0, hv0⟩ := hc _ d2
  have hne : ∀ p ∈ led, p.1 ≠ L + 1 + 1 := fun p hp => ne_cell N9 (List.mem_append_right _ hp) (List.mem_append_left _ (.tail _ (.head _))) (hled p hp) ⟨v0, hv0⟩
  unfold cells at N
  simp only [List.cons_append, List.nil_append] at N
  dsimp only [lawEnv, lawA, lawDef, PySem.Challenge.pw_pe0126_01, List.drop]
  have key : UpdF (L + 1 + 1) o2 ([(L + 1, o1), (L + 1 + 1, o2), (L + 1 + 1 + 1, o3), (L + 1 + 1 + 1 + 1, o4), (L + 1 + 1 + 1 + 1 + 1, o5), (L + 1 + 1 + 1 + 1 + 1 + 1, o6), (L + 1 + 1 + 1 + 1 + 1 + 1 + 1, o7), (L + 1 + 1 + 1 + 1 + 1 + 1 + 1 + 1, o8), (L + 1 + 1 + 1 + 1 + 1 + 1 + 1 + 1 + 1, o9), (L + 1 + 1 + 1 + 1 + 1 + 1 + 1 + 1 + 1 + 1, o10)] ++ led) (fun oN => [(L + 1, o1), (L + 1 + 1, oN), (L + 1 + 1 + 1, o3), (L + 1 + 1 + 1 + 1, o4), (L + 1 + 1 + 1 + 1 + 1, o5), (L + 1 + 1 + 1 + 1 + 1 + 1, o6), (L + 1 + 1 + 1 + 1 + 1 + 1 + 1, o7), (L + 1 + 1 + 1 + 1 + 1 + 1 + 1 + 1, o8), (L + 1 + 1 + 1 + 1 + 1 + 1 + 1 + 1 + 1, o9), (L + 1 + 1 + 1 + 1 + 1 + 1 + 1 + 1 + 1 + 1, o10)] ++ led) := by
    simp only [List.cons_append, List.nil_append]
    refine UpdF.tail (Nat.ne_of_lt (by show @LT.lt Nat _ _ _; omega)) ?_
    refine UpdF.head fun p hp => ?_
    rcases List.mem_cons.mp hp with rfl | hp; exact Nat.ne_of_gt (by show @LT.lt Nat _ _ _; omega)
    rcases List.mem_cons.mp hp with rfl | hp; exact Nat.ne_of_gt (by show @LT.lt Nat _ _ _; omega)
    rcases List.mem_cons.mp hp with rfl | hp; exact Nat.ne_of_gt (by show @LT.lt Nat _ _ _; omega)
    rcases List.mem_cons.mp hp with rfl | hp; exact Nat.ne_of_gt (by show @LT.lt Nat _ _ _; omega)
    rcases List.mem_cons.mp hp with rfl | hp; exact Nat.ne_of_gt (by show @LT.lt Nat _ _ _; omega)
    rcases List.mem_cons.mp hp with rfl | hp; exact Nat.ne_of_gt (by show @LT.lt Nat _ _ _; omega)
    rcases List.mem_cons.mp hp with rfl | hp; exact Nat.ne_of_gt (by show @LT.lt Nat _ _ _; omega)
    rcases List.mem_cons.mp hp with rfl | hp; exact Nat.ne_of_gt (by show @LT.lt Nat _ _ _; omega)
    exact hne p hp
  with_unfolding_all refine storeX_C (c := L + 1 + 1) F N rfl key hv0 (fun h1 oN F1 N1 d => h _ ⟨u, o1, oN, o3, o4, o5, o6, o7, o8, o9, o10, h1, tk, rfl, F1, N1, d1, hC _ d, d3, d4, d5, d6, d7, d8, d9, d10⟩) rfl rfl
theorem store_step {M : Model} {h₀ : Heap} {L fa : Addr} {cd : Value} {s₀ s : Shared} {vars : List (Str × Value)} {led : List (Addr × Obj)} {c1 c2 c3 c4 c5 c6 c7 c8 c9 c10 : Obj → Prop} {v : Value} {Q : Unit → Shared → Prop} {E : Value → Shared → Prop}
    (C : Obj → Prop) (P : LSt h₀ L s₀ vars led c1 c2 c3 c4 c5 c6 c7 c8 c9 c10 s) (hc : ∀ o, c3 o → CA o) (hled : ∀ p ∈ led, NoCell p.2) (hC : ∀ o : Obj, o.data = .cell (some v) → C o)
    (h : ∀ s', LSt h₀ L s₀ vars led c1 c2 C c4 c5 c6 c7 c8 c9 c10 s' → Q () s') :
    wpAny M (lawA L fa cd) (storeName (lawEnv L fa cd) (Str.ofString "step") v) Q E s := by
  obtain ⟨u, o1, o2, o3, o4, o5, o6, o7, o8, o9, o10, h', tk, rfl, F, N, d1, d2, d3, d4, d5, d6, d7, d8, d9, d10⟩ := P
  have N9 := N
  obtain ⟨v0, hv0⟩ := hc _ d3
  have hne : ∀ p ∈ led, p.1 ≠ L + 1 + 1 + 1 := fun p hp => ne_cell N9 (List.mem_append_right _ hp) (List.mem_append_left _ (.tail _ (.tail _ (.head _)))) (hled p hp) ⟨v0, hv0⟩
  unfold cells at N
  simp only [List.cons_append, List.nil_append] at N
  dsimp only [lawEnv, lawA, lawDef, PySem.Challenge.pw_pe0126_01, List.drop]
  have key : UpdF (L + 1 + 1 + 1) o3 ([(L + 1, o1), (L + 1 + 1, o2), (L + 1 + 1 + 1, o3), (L + 1 + 1 + 1 + 1, o4), (L + 1 + 1 + 1 + 1 + 1, o5), (L + 1 + 1 + 1 + 1 + 1 + 1, o6), (L + 1 + 1 + 1 + 1 + 1 + 1 + 1, o7), (L + 1 + 1 + 1 + 1 + 1 + 1 + 1 + 1, o8), (L + 1 + 1 + 1 + 1 + 1 + 1 + 1 + 1 + 1, o9), (L + 1 + 1 + 1 + 1 + 1 + 1 + 1 + 1 + 1 + 1, o10)] ++ led) (fun oN => [(L + 1, o1), (L + 1 + 1, o2), (L + 1 + 1 + 1, oN), (L + 1 + 1 + 1 + 1, o4), (L + 1 + 1 + 1 + 1 + 1, o5), (L + 1 + 1 + 1 + 1 + 1 + 1, o6), (L + 1 + 1 + 1 + 1 + 1 + 1 + 1, o7), (L + 1 + 1 + 1 + 1 + 1 + 1 + 1 + 1, o8), (L + 1 + 1 + 1 + 1 + 1 + 1 + 1 + 1 + 1, o9), (L + 1 + 1 + 1 + 1 + 1 + 1 + 1 + 1 + 1 + 1, o10)] ++ led) := by
    simp only [List.cons_append, List.nil_append]
    refine UpdF.tail (Nat.ne_of_lt (by show @LT.lt Nat _ _ _; omega)) ?_
    refine UpdF.tail (Nat.ne_of_lt (by show @LT.lt Nat _ _ _; omega)) ?_
    refine UpdF.head fun p hp => ?_
    rcases List.mem_cons.mp hp with rfl | hp; exact Nat.ne_of_gt (by show @LT.lt Nat _ _ _; omega)
    rcases List.mem_cons.mp hp with rfl | hp; exact Nat.ne_of_gt (by show @LT.lt Nat _ _ _; omega)
    rcases List.mem_cons.mp hp with rfl | hp; exact Nat.ne_of_gt (by show @LT.lt Nat _ _ _; omega)
    rcases List.mem_cons.mp hp with rfl | hp; exact Nat.ne_of_gt (by show @LT.lt Nat _ _ _; omega)
    rcases List.mem_cons.mp hp with rfl | hp; exact Nat.ne_of_gt (by show @LT.lt Nat _ _ _; omega)
    rcases List.mem_cons.mp hp with rfl | hp; exact Nat.ne_of_gt (by show @LT.lt Nat _ _ _; omega)
    rcases List.mem_cons.mp hp with rfl | hp; exact Nat.ne_of_gt (by show @LT.lt Nat _ _ _; omega)
    exact hne p hp
  with_unfolding_all refine storeX_C (c := L + 1 + 1 + 1) F N rfl key hv0 (fun h1 oN F1 N1 d => h _ ⟨u, o1, o2, oN, o4, o5, o6, o7, o8, o9, o10, h1, tk, rfl, F1, N1, d1, d2, hC _ d, d4, d5, d6, d7, d8, d9, d10⟩) rfl rfl
theorem store_size {M : Model} {h₀ : Heap} {L fa : Addr} {cd : Value} {s₀ s : Shared} {vars : List (Str × Value)} {led : List (Addr × Obj)} {c1 c2 c3 c4 c5 c6 c7 c8 c9 c10 : Obj → Prop} {v : Value} {Q : Unit → Shared → Prop} {E : Value → Shared → Prop}
    (C : Obj → Prop) (P : LSt h₀ L s₀ vars led c1 c2 c3 c4 c5 c6 c7 c8 c9 c10 s) (hc : ∀ o, c4 o → CA o) (hled : ∀ p ∈ led, NoCell p.2) (hC : ∀ o : Obj, o.data = .cell (some v) → C o)
    (h : ∀ s', LSt h₀ L s₀ vars led c1 c2 c3 C c5 c6 c7 c8 c9 c10 s' → Q () s') :
    wpAny M (lawA L fa cd) (storeName (lawEnv L fa cd) (Str.ofString "size") v) Q E s := by
  obtain ⟨u, o1, o2, o3, o4, o5, o6, o7, o8, o9, o10, h', tk, rfl, F, N, d1, d2, d3, d4, d5, d6, d7, d8, d9, d10⟩ := P
  have N9 := N
  obtain ⟨v0, hv0⟩ := hc _ d4
  have hne : ∀ p ∈ led, p.1 ≠ L + 1 + 1 + 1 + 1 := fun p hp => ne_cell N9 (List.mem_append_right _ hp) (List.mem_append_left _ (.tail _ (.tail _ (.tail _ (.head _))))) (hled p hp) ⟨v0, hv0⟩
  unfold cells at N
  simp only [List.cons_append, List.nil_append] at N
  dsimp only [lawEnv, lawA, lawDef, PySem.Challenge.pw_pe0126_01, List.drop]
  have key : UpdF (L + 1 + 1 + 1 + 1) o4 ([(L + 1, o1), (L + 1 + 1, o2), (L + 1 + 1 + 1, o3), (L + 1 + 1 + 1 + 1, o4), (L + 1 + 1 + 1 + 1 + 1, o5), (L + 1 + 1 + 1 + 1 + 1 + 1, o6), (L + 1 + 1 + 1 + 1 + 1 + 1 + 1, o7), (L + 1 + 1 + 1 + 1 + 1 + 1 + 1 + 1, o8), (L + 1 + 1 + 1 + 1 + 1 + 1 + 1 + 1 + 1, o9), (L + 1 + 1 + 1 + 1 + 1 + 1 + 1 + 1 + 1 + 1, o10)] ++ led) (fun oN => [(L + 1, o1), (L + 1 + 1, o2), (L + 1 + 1 + 1, o3), (L + 1 + 1 + 1 + 1, oN), (L + 1 + 1 + 1 + 1 + 1, o5), (L + 1 + 1 + 1 + 1 + 1 + 1, o6), (L + 1 + 1 + 1 + 1 + 1 + 1 + 1, o7), (L + 1 + 1 + 1 + 1 + 1 + 1 + 1 + 1, o8), (L + 1 + 1 + 1 + 1 + 1 + 1 + 1 + 1 + 1, o9), (L + 1 + 1 + 1 + 1 + 1 + 1 + 1 + 1 + 1 + 1, o10)] ++ led) := by
    simp only [List.cons_append, List.nil_append]
    refine UpdF.tail (Nat.ne_of_lt (by show @LT.lt Nat _ _ _; omega)) ?_
    refine UpdF.tail (Nat.ne_of_lt (by show @LT.lt Nat _ _ _; omega)) ?_
    refine UpdF.tail (Nat.ne_of_lt (by show @LT.lt Nat _ _ _; omega)) ?_
    refine UpdF.head fun p hp => ?_
    rcases List.mem_cons.mp hp with rfl | hp; exact Nat.ne_of_gt (by show @LT.lt Nat _ _ _; omega)
    rcases List.mem_cons.mp hp with rfl | hp; exact Nat.ne_of_gt (by show @LT.lt Nat _ _ _; omega)
    rcases List.mem_cons.mp hp with rfl | hp; exact Nat.ne_of_gt (by show @LT.lt Nat _ _ _; omega)
    rcases List.mem_cons.mp hp with rfl | hp; exact Nat.ne_of_gt (by show @LT.lt Nat _ _ _; omega)
    rcases List.mem_cons.mp hp with rfl | hp; exact Nat.ne_of_gt (by show @LT.lt Nat _ _ _; omega)
    rcases List.mem_cons.mp hp with rfl | hp; exact Nat.ne_of_gt (by show @LT.lt Nat _ _ _; omega)
    exact hne p hp
  with_unfolding_all refine storeX_C (c := L + 1 + 1 + 1 + 1) F N rfl key hv0 (fun h1 oN F1 N1 d => h _ ⟨u, o1, o2, o3, oN, o5, o6, o7, o8, o9, o10, h1, tk, rfl, F1, N1, d1, d2, d3, hC _ d, d5, d6, d7, d8, d9, d10⟩) rfl rfl
theorem store_places {M : Model} {h₀ : Heap} {L fa : Addr} {cd : Value} {s₀ s : Shared} {vars : List (Str × Value)} {led : List (Addr × Obj)} {c1 c2 c3 c4 c5 c6 c7 c8 c9 c10 : Obj → Prop} {v : Value} {Q : Unit → Shared → Prop} {E : Value → Shared → Prop}
    (C : Obj → Prop) (P : LSt h₀ L s₀ vars led c1 c2 c3 c4 c5 c6 c7 c8 c9 c10 s) (hc : ∀ o, c5 o → CA o) (hled : ∀ p ∈ led, NoCell p.2) (hC : ∀ o : Obj, o.data = .cell (some v) → C o)
    (h : ∀ s', LSt h₀ L s₀ vars led c1 c2 c3 c4 C c6 c7 c8 c9 c10 s' → Q () s') :
    wpAny M (lawA L fa cd) (storeName (lawEnv L fa cd) (Str.ofString "places") v) Q E s := by
  obtain ⟨u, o1, o2, o3, o4, o5, o6, o7, o8, o9, o10, h', tk, rfl, F, N, d1, d2, d3, d4, d5, d6, d7, d8, d9, d10⟩ := P
  have N9 := N
  obtain ⟨v0, hv0⟩ := hc _ d5
  have hne : ∀ p ∈ led, p.1 ≠ L + 1 + 1 + 1 + 1 + 1 := fun p hp => ne_cell N9 (List.mem_append_right _ hp) (List.mem_append_left _ (.tail _ (.tail _ (.tail _ (.tail _ (.head _)))))) (hled p hp) ⟨v0, hv0⟩
  unfold cells at N
  simp only [List.cons_append, List.nil_append] at N
  dsimp only [lawEnv, lawA, lawDef, PySem.Challenge.pw_pe0126_01, List.drop]
  have key : UpdF (L + 1 + 1 + 1 + 1 + 1) o5 ([(L + 1, o1), (L + 1 + 1, o2), (L + 1 + 1 + 1, o3), (L + 1 + 1 + 1 + 1, o4), (L + 1 + 1 + 1 + 1 + 1, o5), (L + 1 + 1 + 1 + 1 + 1 + 1, o6), (L + 1 + 1 + 1 + 1 + 1 + 1 + 1, o7), (L + 1 + 1 + 1 + 1 + 1 + 1 + 1 + 1, o8), (L + 1 + 1 + 1 + 1 + 1 + 1 + 1 + 1 + 1, o9), (L + 1 + 1 + 1 + 1 + 1 + 1 + 1 + 1 + 1 + 1, o10)] ++ led) (fun oN => [(L + 1, o1), (L + 1 + 1, o2), (L + 1 + 1 + 1, o3), (L + 1 + 1 + 1 + 1, o4), (L + 1 + 1 + 1 + 1 + 1, oN), (L + 1 + 1 + 1 + 1 + 1 + 1, o6), (L + 1 + 1 + 1 + 1 + 1 + 1 + 1, o7), (L + 1 + 1 + 1 + 1 + 1 + 1 + 1 + 1, o8), (L + 1 + 1 + 1 + 1 + 1 + 1 + 1 + 1 + 1, o9), (L + 1 + 1 + 1 + 1 + 1 + 1 + 1 + 1 + 1 + 1, o10)] ++ led) := by
    simp only [List.cons_append, List.nil_append]
    refine UpdF.tail (Nat.ne_of_lt (by show @LT.lt Nat _ _ _; omega)) ?_
    refine UpdF.tail (Nat.ne_of_lt (by show @LT.lt Nat _ _ _; omega)) ?_
    refine UpdF.tail (Nat.ne_of_lt (by show @LT.lt Nat _ _ _; omega)) ?_
    refine UpdF.tail (Nat.ne_of_lt (by show @LT.lt Nat _ _ _; omega)) ?_
    refine UpdF.head fun p hp => ?_
    rcases List.mem_cons.mp hp with rfl | hp; exact Nat.ne_of_gt (by show @LT.lt Nat _ _ _; omega)
    rcases List.mem_cons.mp hp with rfl | hp; exact Nat.ne_of_gt (by show @LT.lt Nat _ _ _; omega)
    rcases List.mem_cons.mp hp with rfl | hp; exact Nat.ne_of_gt (by show @LT.lt Nat _ _ _; omega)
    rcases List.mem_cons.mp hp with rfl | hp; exact Nat.ne_of_gt (by show @LT.lt Nat _ _ _; omega)
    rcases List.mem_cons.mp hp with rfl | hp; exact Nat.ne_of_gt (by show @LT.lt Nat _ _ _; omega)
    exact hne p hp
  with_unfolding_all refine storeX_C (c := L + 1 + 1 + 1 + 1 + 1) F N rfl key hv0 (fun h1 oN F1 N1 d => h _ ⟨u, o1, o2, o3, o4, oN, o6, o7, o8, o9, o10, h1, tk, rfl, F1, N1, d1, d2, d3, d4, hC _ d, d6, d7, d8, d9, d10⟩) rfl rfl
theorem store_told {M : Model} {h₀ : Heap} {L fa : Addr} {cd : Value} {s₀ s : Shared} {vars : List (Str × Value)} {led : List (Addr × Obj)} {c1 c2 c3 c4 c5 c6 c7 c8 c9 c10 : Obj → Prop} {v : Value} {Q : Unit → Shared → Prop} {E : Value → Shared → Prop}
    (C : Obj → Prop) (P : LSt h₀ L s₀ vars led c1 c2 c3 c4 c5 c6 c7 c8 c9 c10 s) (hc : ∀ o, c6 o → CA o) (hled : ∀ p ∈ led, NoCell p.2) (hC : ∀ o : Obj, o.data = .cell (some v) → C o)
    (h : ∀ s', LSt h₀ L s₀ vars led c1 c2 c3 c4 c5 C c7 c8 c9 c10 s' → Q () s') :
    wpAny M (lawA L fa cd) (storeName (lawEnv L fa cd) (Str.ofString "told") v) Q E s := by
  obtain ⟨u, o1, o2, o3, o4, o5, o6, o7, o8, o9, o10, h', tk, rfl, F, N, d1, d2, d3, d4, d5, d6, d7, d8, d9, d10⟩ := P
  have N9 := N
  obtain ⟨v0, hv0⟩ := hc _ d6
  have hne : ∀ p ∈ led, p.1 ≠ L + 1 + 1 + 1 + 1 + 1 + 1 := fun p hp => ne_cell N9 (List.mem_append_right _ hp) (List.mem_append_left _ (.tail _ (.tail _ (.tail _ (.tail _ (.tail _ (.head _))))))) (hled p hp) ⟨v0, hv0⟩
  unfold cells at N
  simp only [List.cons_append, List.nil_append] at N
  dsimp only [lawEnv, lawA, lawDef, PySem.Challenge.pw_pe0126_01, List.drop]
  have key : UpdF (L + 1 + 1 + 1 + 1 + 1 + 1) o6 ([(L + 1, o1), (L + 1 + 1, o2), (L + 1 + 1 + 1, o3), (L + 1 + 1 + 1 + 1, o4), (L + 1 + 1 + 1 + 1 + 1, o5), (L + 1 + 1 + 1 + 1 + 1 + 1, o6), (L + 1 + 1 + 1 + 1 + 1 + 1 + 1, o7), (L + 1 + 1 + 1 + 1 + 1 + 1 + 1 + 1, o8), (L + 1 + 1 + 1 + 1 + 1 + 1 + 1 + 1 + 1, o9), (L + 1 + 1 + 1 + 1 + 1 + 1 + 1 + 1 + 1 + 1, o10)] ++ led) (fun oN => [(L + 1, o1), (L + 1 + 1, o2), (L + 1 + 1 + 1, o3), (L + 1 + 1 + 1 + 1, o4), (L + 1 + 1 + 1 + 1 + 1, o5), (L + 1 + 1 + 1 + 1 + 1 + 1, oN), (L + 1 + 1 + 1 + 1 + 1 + 1 + 1, o7), (L + 1 + 1 + 1 + 1 + 1 + 1 + 1 + 1, o8), (L + 1 + 1 + 1 + 1 + 1 + 1 + 1 + 1 + 1, o9), (L + 1 + 1 + 1 + 1 + 1 + 1 + 1 + 1 + 1 + 1, o10)] ++ led) := by
    simp only [List.cons_append, List.nil_append]
    refine UpdF.tail (Nat.ne_of_lt (by show @LT.lt Nat _ _ _; omega)) ?_
    refine UpdF.tail (Nat.ne_of_lt (by show @LT.lt Nat _ _ _; omega)) ?_
    refine UpdF.tail (Nat.ne_of_lt (by show @LT.lt Nat _ _ _; omega)) ?_
    refine UpdF.tail (Nat.ne_of_lt (by show @LT.lt Nat _ _ _; omega)) ?_
    refine UpdF.tail (Nat.ne_of_lt (by show @LT.lt Nat _ _ _; omega)) ?_
    refine UpdF.head fun p hp => ?_
    rcases List.mem_cons.mp hp with rfl | hp; exact Nat.ne_of_gt (by show @LT.lt Nat _ _ _; omega)
    rcases List.mem_cons.mp hp with rfl | hp; exact Nat.ne_of_gt (by show @LT.lt Nat _ _ _; omega)
    rcases List.mem_cons.mp hp with rfl | hp; exact Nat.ne_of_gt (by show @LT.lt Nat _ _ _; omega)
    rcases List.mem_cons.mp hp with rfl | hp; exact Nat.ne_of_gt (by show @LT.lt Nat _ _ _; omega)
    exact hne p hp
  with_unfolding_all refine storeX_C (c := L + 1 + 1 + 1 + 1 + 1 + 1) F N rfl key hv0 (fun h1 oN F1 N1 d => h _ ⟨u, o1, o2, o3, o4, o5, oN, o7, o8, o9, o10, h1, tk, rfl, F1, N1, d1, d2, d3, d4, d5, hC _ d, d7, d8, d9, d10⟩) rfl rfl
theorem store_word {M : Model} {h₀ : Heap} {L fa : Addr} {cd : Value} {s₀ s : Shared} {vars : List (Str × Value)} {led : List (Addr × Obj)} {c1 c2 c3 c4 c5 c6 c7 c8 c9 c10 : Obj → Prop} {v : Value} {Q : Unit → Shared → Prop} {E : Value → Shared → Prop}
    (C : Obj → Prop) (P : LSt h₀ L s₀ vars led c1 c2 c3 c4 c5 c6 c7 c8 c9 c10 s) (hc : ∀ o, c7 o → CA o) (hled : ∀ p ∈ led, NoCell p.2) (hC : ∀ o : Obj, o.data = .cell (some v) → C o)
    (h : ∀ s', LSt h₀ L s₀ vars led c1 c2 c3 c4 c5 c6 C c8 c9 c10 s' → Q () s') :
    wpAny M (lawA L fa cd) (storeName (lawEnv L fa cd) (Str.ofString "word") v) Q E s := by
  obtain ⟨u, o1, o2, o3, o4, o5, o6, o7, o8, o9, o10, h', tk, rfl, F, N, d1, d2, d3, d4, d5, d6, d7, d8, d9, d10⟩ := P
  have N9 := N
  obtain ⟨v0, hv0⟩ := hc _ d7
  have hne : ∀ p ∈ led, p.1 ≠ L + 1 + 1 + 1 + 1 + 1 + 1 + 1 := fun p hp => ne_cell N9 (List.mem_append_right _ hp) (List.mem_append_left _ (.tail _ (.tail _ (.tail _ (.tail _ (.tail _ (.tail _ (.head _)))))))) (hled p hp) ⟨v0, hv0⟩
  unfold cells at N
  simp only [List.cons_append, List.nil_append] at N
  dsimp only [lawEnv, lawA, lawDef, PySem.Challenge.pw_pe0126_01, List.drop]
  have key : UpdF (L + 1 + 1 + 1 + 1 + 1 + 1 + 1) o7 ([(L + 1, o1), (L + 1 + 1, o2), (L + 1 + 1 + 1, o3), (L + 1 + 1 + 1 + 1, o4), (L + 1 + 1 + 1 + 1 + 1, o5), (L + 1 + 1 + 1 + 1 + 1 + 1, o6), (L + 1 + 1 + 1 + 1 + 1 + 1 + 1, o7), (L + 1 + 1 + 1 + 1 + 1 + 1 + 1 + 1, o8), (L + 1 + 1 + 1 + 1 + 1 + 1 + 1 + 1 + 1, o9), (L + 1 + 1 + 1 + 1 + 1 + 1 + 1 + 1 + 1 + 1, o10)] ++ led) (fun oN => [(L + 1, o1), (L + 1 + 1, o2), (L + 1 + 1 + 1, o3), (L + 1 + 1 + 1 + 1, o4), (L + 1 + 1 + 1 + 1 + 1, o5), (L + 1 + 1 + 1 + 1 + 1 + 1, o6), (L + 1 + 1 + 1 + 1 + 1 + 1 + 1, oN), (L + 1 + 1 + 1 + 1 + 1 + 1 + 1 + 1, o8), (L + 1 + 1 + 1 + 1 + 1 + 1 + 1 + 1 + 1, o9), (L + 1 + 1 + 1 + 1 + 1 + 1 + 1 + 1 + 1 + 1, o10)] ++ led) := by
    simp only [List.cons_append, List.nil_append]
    refine UpdF.tail (Nat.ne_of_lt (by show @LT.lt Nat _ _ _; omega)) ?_
    refine UpdF.tail (Nat.ne_of_lt (by show @LT.lt Nat _ _ _; omega)) ?_
    refine UpdF.tail (Nat.ne_of_lt (by show @LT.lt Nat _ _ _; omega)) ?_
    refine UpdF.tail (Nat.ne_of_lt (by show @LT.lt Nat _ _ _; omega)) ?_
    refine UpdF.tail (Nat.ne_of_lt (by show @LT.lt Nat _ _ _; omega)) ?_
    refine UpdF.tail (Nat.ne_of_lt (by show @LT.lt Nat _ _ _; omega)) ?_
    refine UpdF.head fun p hp => ?_
    rcases List.mem_cons.mp hp with rfl | hp; exact Nat.ne_of_gt (by show @LT.lt Nat _ _ _; omega)
    rcases List.mem_cons.mp hp with rfl | hp; exact Nat.ne_of_gt (by show @LT.lt Nat _ _ _; omega)
    rcases List.mem_cons.mp hp with rfl | hp; exact Nat.ne_of_gt (by show @LT.lt Nat _ _ _; omega)
    exact hne p hp
  with_unfolding_all refine storeX_C (c := L + 1 + 1 + 1 + 1 + 1 + 1 + 1) F N rfl key hv0 (fun h1 oN F1 N1 d => h _ ⟨u, o1, o2, o3, o4, o5, o6, oN, o8, o9, o10, h1, tk, rfl, F1, N1, d1, d2, d3, d4, d5, d6, hC _ d, d8, d9, d10⟩) rfl rfl
theorem store_first {M : Model} {h₀ : Heap} {L fa : Addr} {cd : Value} {s₀ s : Shared} {vars : List (Str × Value)} {led : List (Addr × Obj)} {c1 c2 c3 c4 c5 c6 c7 c8 c9 c10 : Obj → Prop} {v : Value} {Q : Unit → Shared → Prop} {E : Value → Shared → Prop}
    (C : Obj → Prop) (P : LSt h₀ L s₀ vars led c1 c2 c3 c4 c5 c6 c7 c8 c9 c10 s) (hc : ∀ o, c8 o → CA o) (hled : ∀ p ∈ led, NoCell p.2) (hC : ∀ o : Obj, o.data = .cell (some v) → C o)
    (h : ∀ s', LSt h₀ L s₀ vars led c1 c2 c3 c4 c5 c6 c7 C c9 c10 s' → Q () s') :
    wpAny M (lawA L fa cd) (storeName (lawEnv L fa cd) (Str.ofString "first") v) Q E s := by
  obtain ⟨u, o1, o2, o3, o4, o5, o6, o7, o8, o9, o10, h', tk, rfl, F, N, d1, d2, d3, d4, d5, d6, d7, d8, d9, d10⟩ := P
  have N9 := N
  obtain ⟨v0, hv0⟩ := hc _ d8
  have hne : ∀ p ∈ led, p.1 ≠ L + 1 + 1 + 1 + 1 + 1 + 1 + 1 + 1 := fun p hp => ne_cell N9 (List.mem_append_right _ hp) (List.mem_append_left _ (.tail _ (.tail _ (.tail _ (.tail _ (.tail _ (.tail _ (.tail _ (.head _))))))))) (hled p hp) ⟨v0, hv0⟩
  unfold cells at N
  simp only [List.cons_append, List.nil_append] at N
  dsimp only [lawEnv, lawA, lawDef, PySem.Challenge.pw_pe0126_01, List.drop]
  have key : UpdF (L + 1 + 1 + 1 + 1 + 1 + 1 + 1 + 1) o8 ([(L + 1, o1), (L + 1 + 1, o2), (L + 1 + 1 + 1, o3), (L + 1 + 1 + 1 + 1, o4), (L + 1 + 1 + 1 + 1 + 1, o5), (L + 1 + 1 + 1 + 1 + 1 + 1, o6), (L + 1 + 1 + 1 + 1 + 1 + 1 + 1, o7), (L + 1 + 1 + 1 + 1 + 1 + 1 + 1 + 1, o8), (L + 1 + 1 + 1 + 1 + 1 + 1 + 1 + 1 + 1, o9), (L + 1 + 1 + 1 + 1 + 1 + 1 + 1 + 1 + 1 + 1, o10)] ++ led) (fun oN => [(L + 1, o1), (L + 1 + 1, o2), (L + 1 + 1 + 1, o3), (L + 1 + 1 + 1 + 1, o4), (L + 1 + 1 + 1 + 1 + 1, o5), (L + 1 + 1 + 1 + 1 + 1 + 1, o6), (L + 1 + 1 + 1 + 1 + 1 + 1 + 1, o7), (L + 1 + 1 + 1 + 1 + 1 + 1 + 1 + 1, oN), (L + 1 + 1 + 1 + 1 + 1 + 1 + 1 + 1 + 1, o9), (L + 1 + 1 + 1 + 1 + 1 + 1 + 1 + 1 + 1 + 1, o10)] ++ led) := by
    simp only [List.cons_append, List.nil_append]
    refine UpdF.tail (Nat.ne_of_lt (by show @LT.lt Nat _ _ _; omega)) ?_
    refine UpdF.tail (Nat.ne_of_lt (by show @LT.lt Nat _ _ _; omega)) ?_
    refine UpdF.tail (Nat.ne_of_lt (by show @LT.lt Nat _ _ _; omega)) ?_
    refine UpdF.tail (Nat.ne_of_lt (by show @LT.lt Nat _ _ _; omega)) ?_
    refine UpdF.tail (Nat.ne_of_lt (by show @LT.lt Nat _ _ _; omega)) ?_
    refine UpdF.tail (Nat.ne_of_lt (by show @LT.lt Nat _ _ _; omega)) ?_
    refine UpdF.tail (Nat.ne_of_lt (by show @LT.lt Nat _ _ _; omega)) ?_
    refine UpdF.head fun p hp => ?_
    rcases List.mem_cons.mp hp with rfl | hp; exact Nat.ne_of_gt (by show @LT.lt Nat _ _ _; omega)
    rcases List.mem_cons.mp hp with rfl | hp; exact Nat.ne_of_gt (by show @LT.lt Nat _ _ _; omega)
    exact hne p hp
  with_unfolding_all refine storeX_C (c := L + 1 + 1 + 1 + 1 + 1 + 1 + 1 + 1) F N rfl key hv0 (fun h1 oN F1 N1 d => h _ ⟨u, o1, o2, o3, o4, o5, o6, o7, oN, o9, o10, h1, tk, rfl, F1, N1, d1, d2, d3, d4, d5, d6, d7, hC _ d, d9, d10⟩) rfl rfl
theorem store_words {M : Model} {h₀ : Heap} {L fa : Addr} {cd : Value} {s₀ s : Shared} {vars : List (Str × Value)} {led : List (Addr × Obj)} {c1 c2 c3 c4 c5 c6 c7 c8 c9 c10 : Obj → Prop} {v : Value} {Q : Unit → Shared → Prop} {E : Value → Shared → Prop}
    (C : Obj → Prop) (P : LSt h₀ L s₀ vars led c1 c2 c3 c4 c5 c6 c7 c8 c9 c10 s) (hc : ∀ o, c9 o → CA o) (hled : ∀ p ∈ led, NoCell p.2) (hC : ∀ o : Obj, o.data = .cell (some v) → C o)
    (h : ∀ s', LSt h₀ L s₀ vars led c1 c2 c3 c4 c5 c6 c7 c8 C c10 s' → Q () s') :
    wpAny M (lawA L fa cd) (storeName (lawEnv L fa cd) (Str.ofString "words") v) Q E s := by
  obtain ⟨u, o1, o2, o3, o4, o5, o6, o7, o8, o9, o10, h', tk, rfl, F, N, d1, d2, d3, d4, d5, d6, d7, d8, d9, d10⟩ := P
  have N9 := N
  obtain ⟨v0, hv0⟩ := hc _ d9
  have hne : ∀ p ∈ led, p.1 ≠ L + 1 + 1 + 1 + 1 + 1 + 1 + 1 + 1 + 1 := fun p hp => ne_cell N9 (List.mem_append_right _ hp) (List.mem_append_left _ (.tail _ (.tail _ (.tail _ (.tail _ (.tail _ (.tail _ (.tail _ (.tail _ (.head _)))))))))) (hled p hp) ⟨v0, hv0⟩
  unfold cells at N
  simp only [List.cons_append, List.nil_append] at N
  dsimp only [lawEnv, lawA, lawDef, PySem.Challenge.pw_pe0126_01, List.drop]
  have key : UpdF (L + 1 + 1 + 1 + 1 + 1 + 1 + 1 + 1 + 1) o9 ([(L + 1, o1), (L + 1 + 1, o2), (L + 1 + 1 + 1, o3), (L + 1 + 1 + 1 + 1, o4), (L + 1 + 1 + 1 + 1 + 1, o5), (L + 1 + 1 + 1 + 1 + 1 + 1, o6), (L + 1 + 1 + 1 + 1 + 1 + 1 + 1, o7), (L + 1 + 1 + 1 + 1 + 1 + 1 + 1 + 1, o8), (L + 1 + 1 + 1 + 1 + 1 + 1 + 1 + 1 + 1, o9), (L + 1 + 1 + 1 + 1 + 1 + 1 + 1 + 1 + 1 + 1, o10)] ++ led) (fun oN => [(L + 1, o1), (L + 1 + 1, o2), (L + 1 + 1 + 1, o3), (L + 1 + 1 + 1 + 1, o4), (L + 1 + 1 + 1 + 1 + 1, o5), (L + 1 + 1 + 1 + 1 + 1 + 1, o6), (L + 1 + 1 + 1 + 1 + 1 + 1 + 1, o7), (L + 1 + 1 + 1 + 1 + 1 + 1 + 1 + 1, o8), (L + 1 + 1 + 1 + 1 + 1 + 1 + 1 + 1 + 1, oN), (L + 1 + 1 + 1 + 1 + 1 + 1 + 1 + 1 + 1 + 1, o10)] ++ led) := by
    simp only [List.cons_append, List.nil_append]
    refine UpdF.tail (Nat.ne_of_lt (by show @LT.lt Nat _ _ _; omega)) ?_
    refine UpdF.tail (Nat.ne_of_lt (by show @LT.lt Nat _ _ _; omega)) ?_
    refine UpdF.tail (Nat.ne_of_lt (by show @LT.lt Nat _ _ _; omega)) ?_
    refine UpdF.tail (Nat.ne_of_lt (by show @LT.lt Nat _ _ _; omega)) ?_
    refine UpdF.tail (Nat.ne_of_lt (by show @LT.lt Nat _ _ _; omega)) ?_
    refine UpdF.tail (Nat.ne_of_lt (by show @LT.lt Nat _ _ _; omega)) ?_
    refine UpdF.tail (Nat.ne_of_lt (by show @LT.lt Nat _ _ _; omega)) ?_
    refine UpdF.tail (Nat.ne_of_lt (by show @LT.lt Nat _ _ _; omega)) ?_
    refine UpdF.head fun p hp => ?_
    rcases List.mem_cons.mp hp with rfl | hp; exact Nat.ne_of_gt (by show @LT.lt Nat _ _ _; omega)
    exact hne p hp
  with_unfolding_all refine storeX_C (c := L + 1 + 1 + 1 + 1 + 1 + 1 + 1 + 1 + 1) F N rfl key hv0 (fun h1 oN F1 N1 d => h _ ⟨u, o1, o2, o3, o4, o5, o6, o7, o8, oN, o10, h1, tk, rfl, F1, N1, d1, d2, d3, d4, d5, d6, d7, d8, hC _ d, d10⟩) rfl rfl
theorem store_n {M : Model} {h₀ : Heap} {L fa : Addr} {cd : Value} {s₀ s : Shared} {vars : List (Str × Value)} {led : List (Addr × Obj)} {c1 c2 c3 c4 c5 c6 c7 c8 c9 c10 : Obj → Prop} {v : Value} {Q : Unit → Shared → Prop} {E : Value → Shared → Prop}
    (C : Obj → Prop) (P : LSt h₀ L s₀ vars led c1 c2 c3 c4 c5 c6 c7 c8 c9 c10 s) (hc : ∀ o, c10 o → CA o) (hled : ∀ p ∈ led, NoCell p.2) (hC : ∀ o : Obj, o.data = .cell (some v) → C o)
    (h : ∀ s', LSt h₀ L s₀ vars led c1 c2 c3 c4 c5 c6 c7 c8 c9 C s' → Q () s') :
    wpAny M (lawA L fa cd) (storeName (lawEnv L fa cd) (Str.ofString "n") v) Q E s := by
  obtain ⟨u, o1, o2, o3, o4, o5, o6, o7, o8, o9, o10, h', tk, rfl, F, N, d1, d2, d3, d4, d5, d6, d7, d8, d9, d10⟩ := P
  have N9 := N
  obtain ⟨v0, hv0⟩ := hc _ d10
  have hne : ∀ p ∈ led, p.1 ≠ L + 1 + 1 + 1 + 1 + 1 + 1 + 1 + 1 + 1 + 1 := fun p hp => ne_cell N9 (List.mem_append_right _ hp) (List.mem_append_left _ (.tail _ (.tail _ (.tail _ (.tail _ (.tail _ (.tail _ (.tail _ (.tail _ (.tail _ (.head _))))))))))) (hled p hp) ⟨v0, hv0⟩
  unfold cells at N
  simp only [List.cons_append, List.nil_append] at N
  dsimp only [lawEnv, lawA, lawDef, PySem.Challenge.pw_pe0126_01, List.drop]
  have key : UpdF (L + 1 + 1 + 1 + 1 + 1 + 1 + 1 + 1 + 1 + 1) o10 ([(L + 1, o1), (L + 1 + 1, o2), (L + 1 + 1 + 1, o3), (L + 1 + 1 + 1 + 1, o4), (L + 1 + 1 + 1 + 1 + 1, o5), (L + 1 + 1 + 1 + 1 + 1 + 1, o6), (L + 1 + 1 + 1 + 1 + 1 + 1 + 1, o7), (L + 1 + 1 + 1 + 1 + 1 + 1 + 1 + 1, o8), (L + 1 + 1 + 1 + 1 + 1 + 1 + 1 + 1 + 1, o9), (L + 1 + 1 + 1 + 1 + 1 + 1 + 1 + 1 + 1 + 1, o10)] ++ led) (fun oN => [(L + 1, o1), (L + 1 + 1, o2), (L + 1 + 1 + 1, o3), (L + 1 + 1 + 1 + 1, o4), (L + 1 + 1 + 1 + 1 + 1, o5), (L + 1 + 1 + 1 + 1 + 1 + 1, o6), (L + 1 + 1 + 1 + 1 + 1 + 1 + 1, o7), (L + 1 + 1 + 1 + 1 + 1 + 1 + 1 + 1, o8), (L + 1 + 1 + 1 + 1 + 1 + 1 + 1 + 1 + 1, o9), (L + 1 + 1 + 1 + 1 + 1 + 1 + 1 + 1 + 1 + 1, oN)] ++ led) := by
    simp only [List.cons_append, List.nil_append]
    refine UpdF.tail (Nat.ne_of_lt (by show @LT.lt Nat _ _ _; omega)) ?_
    refine UpdF.tail (Nat.ne_of_lt (by show @LT.lt Nat _ _ _; omega)) ?_
    refine UpdF.tail (Nat.ne_of_lt (by show @LT.lt Nat _ _ _; omega)) ?_
    refine UpdF.tail (Nat.ne_of_lt (by show @LT.lt Nat _ _ _; omega)) ?_
    refine UpdF.tail (Nat.ne_of_lt (by show @LT.lt Nat _ _ _; omega)) ?_
    refine UpdF.tail (Nat.ne_of_lt (by show @LT.lt Nat _ _ _; omega)) ?_
    refine UpdF.tail (Nat.ne_of_lt (by show @LT.lt Nat _ _ _; omega)) ?_
    refine UpdF.tail (Nat.ne_of_lt (by show @LT.lt Nat _ _ _; omega)) ?_
    refine UpdF.tail (Nat.ne_of_lt (by show @LT.lt Nat _ _ _; omega)) ?_
    refine UpdF.head fun p hp => ?_
    exact hne p hp
  with_unfolding_all refine storeX_C (c := L + 1 + 1 + 1 + 1 + 1 + 1 + 1 + 1 + 1 + 1) F N rfl key hv0 (fun h1 oN F1 N1 d => h _ ⟨u, o1, o2, o3, o4, o5, o6, o7, o8, o9, oN, h1, tk, rfl, F1, N1, d1, d2, d3, d4, d5, d6, d7, d8, d9, hC _ d⟩) rfl rfl
end
section
theorem sub_front {a b : List (Addr × Obj)} {x : Addr × Obj} : ∀ p ∈ a ++ x :: b, p ∈ x :: (a ++ b) := fun p hp => by
  rcases List.mem_append.mp hp with h | h
  · exact .tail _ (List.mem_append.mpr (.inl h))
  · rcases List.mem_cons.mp h with rfl | h
    · exact .head _
    · exact .tail _ (List.mem_append.mpr (.inr h))
theorem led_cons {led : List (Addr × Obj)} {x : Addr × Obj} (hx : NoCell x.2) (h : ∀ p ∈ led, NoCell p.2) : ∀ p ∈ x :: led, NoCell p.2 := List.forall_mem_cons.mpr ⟨hx, h⟩
end
section
def placeAt (start leap k : Int) : Int := (start + 4 * leap * k).fmod 64
def qf (a b : Int) : UInt64 := Float64.ofFrac (decide (a < 0) != decide (b < 0)) a.natAbs b.natAbs
def toldAt (start leap k : Int) : UInt64 × UInt64 × UInt64 := (qf (placeAt start leap k) 64, qf (k.fmod 4 + 1) 4, qf ((k.fdiv 4).fmod 4 + 1) 4)
/-- the items of a list are new objects, each as T says of its number -/
structure TL (T : Int → Obj → Prop) (ks : List Int) (ys : List Value) (tl : List (Addr × Obj)) : Prop where
  len : ys.length = ks.length
  at' : ∀ (i : Nat) (k : Int), ks[i]? = some k → ∃ D o, ys[i]? = some (Value.ref D) ∧ (D, o) ∈ tl ∧ T k o
  seq : ∀ p ∈ tl, NoCell p.2
section
variable {prog : Program} {w : World} {A : Around} {h₀ : Heap} {L : Addr} {m : Str → Option Value} {env : Env} {elt : PySem.Expr} {x : Str} {scope : Scope} {cl : List (Str × Addr)} {s : Shared} {S : List (Addr × Obj) → Prop} {P : Nat → Value → Prop} {Fin : List Value → List (Addr × Obj) → Prop} {news : List (Addr × Obj)}
def KTlEl (T : Int → Obj → Prop) (k : Int) (led : List (Addr × Obj)) (y : Value) (led' : List (Addr × Obj)) : Prop := ∃ D o, y = Value.ref D ∧ T k o ∧ NoCell o ∧ led' = (D, o) :: led
theorem ktl_rest {n : Nat} {ks : List Int} (T : Int → Obj → Prop) (hks : ks.length = n) (hP : ∀ i v, i < n → P i v → ∃ k t, ks[i]? = some k ∧ v = .int k t)
    (turn : ∀ k t I oI C oC D m₂ ys led h tk (E' : Value → Shared → Prop), k ∈ ks → LCg.NsObj oC m₂ → m₂ x = some (.int k t) → Fr h₀ L h m → News h₀ L h ((I, oI) :: (C, oC) :: (D, LCg.lst ys) :: led) → LCg.Off3 I C D led → ((@Ne Nat I C) ∧ (@Ne Nat I D) ∧ (@Ne Nat C D)) → (∀ p ∈ news, p ∈ led) →
      wpAny (model prog w) A (eval elt (compEnvC scope cl C env)) (LCg.CompEnd h₀ L m { s with heap := h, toks := tk } I oI C oC D (LCg.lst ys) S (KTlEl T k led)) E' { s with heap := h, toks := tk })
    (fin : ∀ ys tl, TL T ks ys tl → Fin ys (tl ++ news)) : LCg.CompRest prog w A h₀ L m env elt x scope cl s S P Fin n 0 [] news := by
  have key : ∀ (j i : Nat) (ys : List Value) (tl : List (Addr × Obj)), i + j = n → TL T (ks.take i) ys tl → LCg.CompRest prog w A h₀ L m env elt x scope cl s S P Fin j i ys (tl ++ news) := by
    intro j
    induction j with
    | zero =>
      intro i ys tl hi hy
      have e : i = ks.length := by omega
      subst e
      rw [List.take_length] at hy
      exact LCg.CompRest.zero (fin ys tl hy)
    | succ j ih =>
      intro i ys tl hi hy
      refine LCg.CompRest.succ ?_
      intro v I oI C oC D m₂ h tk E' hv hC hx F N off ne
      obtain ⟨k, t, hk, hv'⟩ := hP i v (by omega) hv
      rw [hv'] at hx
      refine wpAny_mono (turn k t I oI C oC D m₂ ys (tl ++ news) h tk E' (List.mem_of_getElem? hk) hC hx F N off ne (fun p hp => List.mem_append_right _ hp)) (fun y s₂ hq => ?_) fun _ _ e => e
      obtain ⟨h', tk', nw, e, F', N', off', hS, D', o', hy', hT, hno, hn⟩ := hq
      rw [hn] at N' off' hS
      refine ⟨h', tk', (D', o') :: (tl ++ news), e, F', N', off', hS, ?_⟩
      rw [hy']
      have hlen : ys.length = i := by rw [hy.len, List.length_take]; omega
      refine ih (i + 1) _ ((D', o') :: tl) (by omega) ⟨?_, ?_, ?_⟩
      · rw [List.length_append, hlen, List.length_take]; simp only [List.length_cons, List.length_nil]; omega
      · intro i' k' hk'
        by_cases h1 : i' < i
        · rw [List.getElem?_take_of_lt (by omega)] at hk'
          obtain ⟨D2, o2, h2, h3, h4⟩ := hy.at' i' k' (by rw [List.getElem?_take_of_lt h1]; exact hk')
          exact ⟨D2, o2, by rw [List.getElem?_append_left (by omega)]; exact h2, .tail _ h3, h4⟩
        · have h5 : i' < i + 1 := by
            apply Decidable.byContradiction
            intro h6
            rw [List.getElem?_eq_none (by rw [List.length_take]; omega)] at hk'
            cases hk'
          have h7 : i' = i := by omega
          subst h7
          rw [List.getElem?_take_of_lt (by omega), hk] at hk'
          cases hk'
          exact ⟨D', o', by rw [List.getElem?_append_right (by omega), hlen, Nat.sub_self]; rfl, .head _, hT⟩
      · intro p hp
        rcases List.mem_cons.mp hp with rfl | hp
        · exact hno
        · exact hy.seq p hp
  have := key n 0 [] [] (by omega) ⟨by simp, fun i k h => by simp at h, fun p hp => nomatch hp⟩
  simpa using this
end
theorem ktl_item {prog : Program} {w : World} {A : Around} {E : Value → Shared → Prop} {s : Shared} {h₀ : Heap} {L l : Addr} {led tl : List (Addr × Obj)} {ys : List Value} {T : Int → Obj → Prop} {n : Nat} {k : Int} {u : Tok} {value slice : PySem.Expr} {Q : Value → Shared → Prop}
    (N : News h₀ L s.heap led) (hm : (l, LCg.lst ys) ∈ led) (hT : TL T (rangeKs 0 n) ys tl) (hs : ∀ p ∈ tl, p ∈ led) (h0 : 0 ≤ k) (h1 : k < n) (hn : n ≤ 1000)
    (h : ∀ D o, (D, o) ∈ led → T k o → Q (.ref D) s)
    (hsb : subscripted slice false (.ref l) (.int k u) = operate [.ref l, .int k u] (getItem (.ref l) (.int k u)) := by with_unfolding_all rfl) :
    wpAny (model prog w) A (subscriptTail value slice (.ref l) (.int k u)) Q E s := by
  have hl : s.heap.IsList l ys.toArray := ⟨_, (N _ hm).1, rfl, _, rfl⟩
  have hg : (rangeKs 0 n)[k.toNat]? = some k := by
    have hkn : k.toNat < n := by omega
    simp only [rangeKs, List.getElem?_map, List.getElem?_range hkn, Option.map_some]
    congr 1; omega
  obtain ⟨D, o, hy, hmo, hTo⟩ := hT.at' k.toNat k hg
  exact tail_any hl.typeIs slot_list_getitem.lookup (wpAny_getItem_list hl h0 (by have : n ≤ 1000 := hn; omega) (by simpa using hy) (h D o (hs _ hmo) hTo)) hsb
theorem mul_bnd {a b m n : Int} (ha : 0 ≤ a ∧ a ≤ m) (hb : 0 ≤ b ∧ b ≤ n) : 0 ≤ a * b ∧ a * b ≤ m * n := ⟨Int.mul_nonneg ha.1 hb.1, Int.mul_le_mul ha.2 hb.2 hb.1 (Int.le_trans ha.1 ha.2)⟩
theorem sub_rot {a b c d : Addr × Obj} {r : List (Addr × Obj)} : ∀ p ∈ b :: c :: d :: a :: r, p ∈ a :: b :: c :: d :: r := fun p hp => by
  simp only [List.mem_cons] at hp ⊢
  rcases hp with h | h | h | h | h <;> simp [h]
theorem sub_led {cl tl led : List (Addr × Obj)} {x : Addr × Obj} : ∀ p ∈ cl ++ x :: (tl ++ led), p ∈ x :: (tl ++ (cl ++ led)) := fun p hp => by
  simp only [List.mem_append, List.mem_cons] at hp ⊢
  rcases hp with h | h | h | h <;> simp [h]
theorem led_tl {x : Addr × Obj} {tl led : List (Addr × Obj)} (hx : NoCell x.2) (ht : ∀ p ∈ tl, NoCell p.2) (h : ∀ p ∈ led, NoCell p.2) : ∀ p ∈ x :: (tl ++ led), NoCell p.2 :=
  List.forall_mem_cons.mpr ⟨hx, fun p hp => (List.mem_append.mp hp).elim (ht p) (h p)⟩
theorem fmod4 (a : Int) : 0 ≤ a.fmod 4 ∧ a.fmod 4 < 4 := ⟨Int.fmod_nonneg_of_pos _ (by decide), Int.fmod_lt_of_pos _ (by decide)⟩
def toldT (start leap k : Int) (o : Obj) : Prop := ∃ t1 t2 t3, 0 < t1 ∧ 0 < t2 ∧ 0 < t3 ∧ o = flt3of (toldAt start leap k) t1 t2 t3
theorem TL.snoc {T : Int → Obj → Prop} {ks : List Int} {i : Nat} {ys : List Value} {tl : List (Addr × Obj)} {k : Int} {D : Addr} {o : Obj} (hy : TL T (ks.take i) ys tl) (hk : ks[i]? = some k) (hT : T k o) (hno : NoCell o) : TL T (ks.take (i + 1)) (ys ++ [.ref D]) ((D, o) :: tl) := by
  have hi : i < ks.length := (List.getElem?_eq_some_iff.mp hk).1
  have hlen : ys.length = i := by rw [hy.len, List.length_take]; omega
  refine ⟨?_, ?_, ?_⟩
  · rw [List.length_append, hlen, List.length_take]; simp only [List.length_cons, List.length_nil]; omega
  · intro i' k' hk'
    by_cases h1 : i' < i
    · rw [List.getElem?_take_of_lt (by omega)] at hk'
      obtain ⟨D2, o2, h2, h3, h4⟩ := hy.at' i' k' (by rw [List.getElem?_take_of_lt h1]; exact hk')
      exact ⟨D2, o2, by rw [List.getElem?_append_left (by omega)]; exact h2, .tail _ h3, h4⟩
    · have h5 : i' < i + 1 := by
        apply Decidable.byContradiction
        intro h6
        rw [List.getElem?_eq_none (by rw [List.length_take]; omega)] at hk'
        cases hk'
      have h7 : i' = i := by omega
      subst h7
      rw [List.getElem?_take_of_lt (by omega), hk] at hk'
      cases hk'
      exact ⟨D, o, by rw [List.getElem?_append_right (by omega), hlen, Nat.sub_self]; rfl, .head _, hT⟩
  · intro p hp
    rcases List.mem_cons.mp hp with rfl | hp
    · exact hno
    · exact hy.seq p hp
theorem TL.nil {T : Int → Obj → Prop} {ks : List Int} : TL T (ks.take 0) [] [] := ⟨by simp, fun i k h => by simp at h, fun p hp => nomatch hp⟩
theorem rangeKs_at {n i : Nat} (h : i < n) : (rangeKs 0 n)[i]? = some (0 + (i : Int)) := by simp [rangeKs, h]
end
section
def askT (size k : Int) (o : Obj) : Prop := ∃ t1 t2, o = { cls := .type "tuple", data := .seq #[.int (k.fmod size) t1, .int ((k.fdiv size).fmod size) t2] }
theorem ktl_item2 {prog : Program} {w : World} {A : Around} {E : Value → Shared → Prop} {s : Shared} {h₀ : Heap} {L l : Addr} {led led0 tl : List (Addr × Obj)} {ys : List Value} {T : Int → Obj → Prop} {n : Nat} {k : Int} {u : Tok} {value slice : PySem.Expr} {Q : Value → Shared → Prop}
    (N : News h₀ L s.heap led) (hm : (l, LCg.lst ys) ∈ led0) (hT : TL T (rangeKs 0 n) ys tl) (hs : ∀ p ∈ tl, p ∈ led0) (h00 : ∀ p ∈ led0, p ∈ led) (h0 : 0 ≤ k) (h1 : k < n) (hn : n ≤ 1000)
    (h : ∀ D o, (D, o) ∈ led0 → T k o → Q (.ref D) s)
    (hsb : subscripted slice false (.ref l) (.int k u) = operate [.ref l, .int k u] (getItem (.ref l) (.int k u)) := by with_unfolding_all rfl) :
    wpAny (model prog w) A (subscriptTail value slice (.ref l) (.int k u)) Q E s :=
  ktl_item (News.sub N h00) hm hT hs h0 h1 hn h hsb
theorem off3_cons2 {I C D d : Addr} {o : Obj} {led : List (Addr × Obj)} {R : Prop} (hl : @LT.lt Nat _ I d ∧ @LT.lt Nat _ C d ∧ @LT.lt Nat _ D d ∧ R) (h : LCg.Off3 I C D led) : LCg.Off3 I C D ((d, o) :: led) :=
  ⟨⟨Nat.ne_of_gt hl.1, Nat.ne_of_gt hl.2.1, Nat.ne_of_gt hl.2.2.1⟩, h⟩
theorem sub_led2 {cl tl led : List (Addr × Obj)} {x y : Addr × Obj} : ∀ p ∈ cl ++ x :: (tl ++ led), p ∈ x :: (tl ++ y :: (cl ++ led)) := fun p hp => by
  simp only [List.mem_append, List.mem_cons] at hp ⊢
  rcases hp with h | h | h | h <;> simp [h]
def Halt2 (p : Prop) : Prop := p
theorem halt2 {p : Prop} (h : Halt2 p) : p := h
section
variable {w : World} {d : Nat} {f : Addr} {vs : List Value} {loose : List Str} {mean : ExcName → Option Value} {mg mb : Str → Option Value} {news : List (Addr × Obj)} {dp un : Nat} {gd : Option (List Code)} {cn : Str} {cs : Scope} {a : Addr} {ccd : Value} {cl : List (Str × Addr)} {outer : List Env} {A₀ : Around} {base h₀ : Heap} {L : Addr} {m : Str → Option Value} {s : Shared} {Q E : Value → Shared → Prop}
theorem Spec2.use {Post : Value → List (Addr × Obj) → Prop} (S : Spec2 w d f vs Post) (B : Below A₀ base outer h₀) (F : Fr h₀ L s.heap m) (X : (hd.heap_39 w.params).In h₀) (N : News h₀ L s.heap news) (T : Top topProg loose mean mg mb h₀) (hk : cs.kind = .function)
    (hd : dp + d < recursionLimit) (hu : un + 8 * d + 8 < cLine)
    (h : ∀ v new h' tk', Post v new → Fr h₀ L h' m → News h₀ L h' (new ++ news) → Q v { s with heap := h', toks := tk' }) :
    wpAny (model PG w) (ktrTop dp un gd cn cs L a ccd cl outer) (call (.ref f) vs) Q E s := S _ _ _ _ _ _ _ _ _ _ _ _ _ _ _ _ _ _ _ _ _ _ B F X N T hk hd hu h
theorem Spec2.useEu {r : List Bool × Int} (S : Spec2 w d f vs (IsEu r)) (B : Below A₀ base outer h₀) (F : Fr h₀ L s.heap m) (X : (hd.heap_39 w.params).In h₀) (N : News h₀ L s.heap news) (T : Top topProg loose mean mg mb h₀) (hk : cs.kind = .function)
    (hd : dp + d < recursionLimit) (hu : un + 8 * d + 8 < cLine)
    (h : ∀ T D us n t h' tk', StrsAre us (strs2 r.1) → Fr h₀ L h' m → News h₀ L h' ((T, { cls := .type "tuple", data := .seq #[.ref D, .int r.2 t] }) :: (D, listOf (List.toArray us) n) :: news) → Q (.ref T) { s with heap := h', toks := tk' }) :
    wpAny (model PG w) (ktrTop dp un gd cn cs L a ccd cl outer) (call (.ref f) vs) Q E s :=
  S.use B F X N T hk hd hu fun v new h' tk' hp F' N' => by
    obtain ⟨T, D, us, n, t, rfl, rfl, hS⟩ := hp
    exact h T D us n t h' tk' hS F' N'
end
theorem words7 : True := by
  w_top off
  k_with_none
  k_with "call ref" => (k_here; (with_reducible show wpAny _ _ (PySem.call (Value.ref 70) _) _ _ _); (with_unfolding_all refine' Spec2.useEu (euclid_spec _ _ _ _ _ ?_ ?_ ?_) ?_ ?_ ?_ ?_ ?_ ?_ ?_ ?_ ?_); (repeat ((fail_if_success (refine (show (_ : Prop) from ?_))); rotate_left 1)); (· (omega)); (· (omega)); (· (omega)); (· (k_asm)); (· (k_asm)); (· (k_asm)); (· (k_asm)); (· (k_asm)); (· (first | exact rfl | assumption)); (· (ktr_room)); (· (ktr_units)); k_whole; intro Tkx Dkx uskx nkx tkx hkx tkkx hSkx Fkx Nkx; (try dsimp only); (try k_fold))
  trivial
theorem Spec2.useStr {w : World} {d : Nat} {f : Addr} {vs : List Value} {loose : List Str} {mean : ExcName → Option Value} {mg mb : Str → Option Value} {news : List (Addr × Obj)} {dp un : Nat} {gd : Option (List Code)} {cn : Str} {cs : Scope} {a : Addr} {ccd : Value} {cl : List (Str × Addr)} {outer : List Env} {A₀ : Around} {base h₀ : Heap} {L : Addr} {m : Str → Option Value} {s : Shared} {Q E : Value → Shared → Prop} {x : Str} (S : Spec2 w d f vs (IsStr x)) (B : Below A₀ base outer h₀) (F : Fr h₀ L s.heap m) (X : (hd.heap_39 w.params).In h₀) (N : News h₀ L s.heap news) (T : Top topProg loose mean mg mb h₀) (hk : cs.kind = .function)
    (hd : dp + d < recursionLimit) (hu : un + 8 * d + 8 < cLine)
    (h : ∀ t h' tk', Fr h₀ L h' m → News h₀ L h' news → Q (.str x t) { s with heap := h', toks := tk' }) :
    wpAny (model PG w) (ktrTop dp un gd cn cs L a ccd cl outer) (call (.ref f) vs) Q E s :=
  Spec2.use S B F X N T hk hd hu fun v new h' tk' hp F' N' => by
    obtain ⟨rfl, t, rfl⟩ := hp
    exact h t h' tk' F' N'
section
variable {prog : Program} {w : World} {A : Around} {h₀ : Heap} {L : Addr} {m : Str → Option Value} {env : Env} {elt : PySem.Expr} {x x₂ : Str} {scope : Scope} {cl : List (Str × Addr)} {s : Shared} {S : List (Addr × Obj) → Prop} {P : Nat → Value → Prop} {Fin : List Value → List (Addr × Obj) → Prop} {news : List (Addr × Obj)}
theorem kpp_rest {n : Nat} {ks : List Int} (fa fb g : Int → Int) (hks : ks.length = n)
    (hP : ∀ i v, i < n → P i v → ∃ (k : Int) (t : Addr) (t1 t2 : Tok), ks[i]? = some k ∧ v = Value.ref t ∧ (t, ({ cls := .type "tuple", data := .seq #[.int (fa k) t1, .int (fb k) t2] } : Obj)) ∈ news)
    (turn : ∀ k t1 t2 I oI C oC D m₂ ys h tk (E' : Value → Shared → Prop), k ∈ ks → LCg.NsObj oC m₂ → m₂ x = some (.int (fa k) t1) → m₂ x₂ = some (.int (fb k) t2) → Fr h₀ L h m → News h₀ L h ((I, oI) :: (C, oC) :: (D, LCg.lst ys) :: news) → LCg.Off3 I C D news → ((@Ne Nat I C) ∧ (@Ne Nat I D) ∧ (@Ne Nat C D)) →
      wpAny (model prog w) A (eval elt (compEnvC scope cl C env)) (LCg.CompEnd h₀ L m { s with heap := h, toks := tk } I oI C oC D (LCg.lst ys) S (fun y news' => KCfEl news (g k) y news')) E' { s with heap := h, toks := tk })
    (fin : ∀ ys, IntsAre ys (ks.map g) → Fin ys news) : LCp.CompRestP prog w A h₀ L m env elt x x₂ scope cl s S P Fin n 0 [] news := by
  have key : ∀ (j i : Nat) (ys : List Value), i + j = n → IntsAre ys ((ks.take i).map g) → LCp.CompRestP prog w A h₀ L m env elt x x₂ scope cl s S P Fin j i ys news := by
    intro j
    induction j with
    | zero =>
      intro i ys hi hy
      have e : i = ks.length := by omega
      subst e
      rw [List.take_length] at hy
      exact LCp.CompRestP.zero (fin ys hy)
    | succ j ih =>
      intro i ys hi hy
      refine LCp.CompRestP.succ ?_
      intro v hv
      obtain ⟨k, t, t1, t2, hk, rfl, hm⟩ := hP i v (by omega) hv
      refine ⟨t, _, _, _, _, rfl, hm, rfl, rfl, ?_⟩
      intro I oI C oC D m₂ h tk E' hC hx hx2 F N off ne
      refine wpAny_mono (turn k t1 t2 I oI C oC D m₂ ys h tk E' (List.mem_of_getElem? hk) hC hx hx2 F N off ne) (fun y s₂ hq => ?_) fun _ _ e => e
      obtain ⟨h', tk', nw, e, F', N', off', hS, hn, t', hy'⟩ := hq
      rw [hn] at N' off' hS
      refine ⟨h', tk', news, e, F', N', off', hS, ?_⟩
      rw [hy']
      refine ih (i + 1) _ (by omega) ?_
      rw [List.take_add_one, hk]
      simpa using IntsAre.append hy (.cons (g k) t' .nil)
  exact key n 0 [] (by omega) (by simp only [List.take_zero, List.map_nil]; exact .nil)
end
theorem tl_pairs {size : Int} {ks : List Int} {ys : List Value} {tl led : List (Addr × Obj)} (hT : TL (askT size) ks ys tl) (hs : ∀ p ∈ tl, p ∈ led) :
    ∀ (i : Nat) (v : Value), ys.toArray[i]? = some v → ∃ (k : Int) (t : Addr) (t1 t2 : Tok), ks[i]? = some k ∧ v = Value.ref t ∧ (t, ({ cls := .type "tuple", data := .seq #[.int (k.fmod size) t1, .int ((k.fdiv size).fmod size) t2] } : Obj)) ∈ led := by
  intro i v hv
  have hv' : ys[i]? = some v := by simpa using hv
  have hi : i < ks.length := by rw [← hT.len]; exact (List.getElem?_eq_some_iff.mp hv').1
  obtain ⟨D, o, h1, h2, t1, t2, rfl⟩ := hT.at' i ks[i] (by simp [hi])
  rw [hv'] at h1
  cases h1
  exact ⟨ks[i], D, t1, t2, by simp [hi], rfl, hs _ h2⟩
theorem fmodb (a b : Int) (hb : 0 < b) : 0 ≤ a.fmod b ∧ a.fmod b < b := ⟨Int.fmod_nonneg_of_pos _ hb, Int.fmod_lt_of_pos _ hb⟩
end
section
theorem words8 : True := by
  w_top off
  k_with_none
  trivial
inductive CkI (s₂ : Shared) (h₀ : Heap) (L : Addr) (m : Str → Option Value) (n : Nat) (St : Nat → Heap → Prop) (C D : Addr) (wr : List Addr) (news : List (Addr × Obj)) (J : Nat → List Value → List (Addr × Obj) → Prop) (k : Nat) (s' : Shared) : Prop
  | mk (h' : Heap) (tk i : Nat) (ys : List Value) (m' : Str → Option Value) (tl : List (Addr × Obj)) (e1 : s' = { s₂ with heap := h', toks := tk }) (e2 : s₂.toks ≤ tk) (e3 : i ≤ n) (e4 : k = n + 1 - i) (e5 : ys.length = i) (e6 : St i h') (e7 : Fr h₀ L h' m) (e8 : h'.Ns C m') (e9 : News h₀ L h' ((D, LCg.lst ys) :: (tl ++ news)))
    (e10 : ∀ p ∈ tl ++ news, p.1 ≠ C ∧ p.1 ≠ D ∧ p.1 ∉ wr) (e11 : J i ys tl) : CkI s₂ h₀ L m n St C D wr news J k s'
section
variable {prog : Program} {w : World} {A : Around} {E : Value → Shared → Prop} {s : Shared} {h₀ : Heap} {L : Addr} {m : Str → Option Value} {env : Env}
/-- a comprehension over anything that is walked: the turn's own additions to the ledger, the tokens' lower bound -/
theorem ck_block {elt target iter : PySem.Expr} {scope : Scope} {cl : List (Str × Addr)} {pos : Pos} {s₂ : Shared} {I : Addr} {fp wr : List Addr} {n : Nat} {P Md : Nat → Value → Heap → Prop} {St : Nat → Heap → Prop} {news : List (Addr × Obj)} {RR : Value → Addr → Result → Shared → Prop}
    {Bd : Nat → (Str → Option Value) → Prop} (W : KTurns prog w A target I fp wr n P Md St) (hsz : n ≤ sizeLine)
    (self : ∀ (s : Shared) (Q : Value → Shared → Prop) (E : Value → Shared → Prop), St 0 s.heap → Q (.ref I) s → wpAny (model prog w) A (pyIter (.ref I)) Q E s)
    (asg : ∀ i v C (s : Shared) m' (Q : Unit → Shared → Prop) (E : Value → Shared → Prop), i < n → P i v s.heap → News h₀ L s.heap news → s.heap.Ns C m' → (∀ h' tk' m'', s.toks ≤ tk' → h'.Ns C m'' → Bd i m'' → (∀ b o, b ≠ C → s.heap.get? b = some o → h'.get? b = some o) → Q () { s with heap := h', toks := tk' }) → wpAny (model prog w) A (assign target (compEnvC scope cl C env) v) Q E s)
    (hcell : ∀ y ∈ scope.names, y.2 ≠ .cell) (hkind : scope.kind = .function) (hst : St 0 s₂.heap) (hfp : ∀ b ∈ fp, b < s₂.heap.objs.size)
    (F : Fr h₀ L s₂.heap m) (N : News h₀ L s₂.heap news) (hLf : L ∉ fp) (hwr : ∀ b ∈ wr, h₀.get? b = none) (hnw : ∀ p ∈ news, p.1 ∉ wr)
    (J : Nat → List Value → List (Addr × Obj) → Prop) (h0 : J 0 [] [])
    (turn : ∀ i ys tl led C oC D m₂ h tk (E' : Value → Shared → Prop), i < n → s₂.toks ≤ tk → J i ys tl → Bd i m₂ → LCg.NsObj oC m₂ → Fr h₀ L h m → News h₀ L h ((C, oC) :: (D, LCg.lst ys) :: led) → (@Ne Nat C D) → (∀ p ∈ news, p ∈ led) → (∀ p ∈ tl, p ∈ led) →
      wpAny (model prog w) A (eval elt (compEnvC scope cl C env)) (fun y s' => ∃ h' tk' tl', s' = { s₂ with heap := h', toks := tk' } ∧ Fr h₀ L h' m ∧ News h₀ L h' (tl' ++ (C, oC) :: (D, LCg.lst ys) :: led) ∧ (∀ p ∈ tl', ∀ q ∈ (C, oC) :: (D, LCg.lst ys) :: led, q.1 < p.1) ∧ J (i + 1) (ys ++ [y]) (tl' ++ tl)) E' { s₂ with heap := h, toks := tk })
    (hRR : ∀ D C h tk m' ys tl, s₂.toks ≤ tk → Fr h₀ L h m → News h₀ L h ((D, LCg.lst ys) :: (tl ++ news)) → (∀ p ∈ tl ++ news, p.1 ≠ C ∧ p.1 ≠ D) → h.Ns C m' → h₀.get? C = none → h₀.get? D = none → C ≠ L → D ≠ L → C ≠ D → J n ys tl → RR (.ref D) C (.ok .next) { s₂ with heap := h, toks := tk }) :
    wpAny (model prog w) A (newList []) (fun acc s₃ => wpAny (model prog w) A (newFunctionEnv scope env.globals cl [] env.qual none .none (some env)) (fun cenv s₄ =>
      codeAny (model prog w) A (.compStart (.ListComp elt [⟨target, iter, [], 0⟩] scope pos) 0 (.ref I) acc { cenv with scope := relabel scope env }) (RR acc cenv.locals) s₄) E s₃) E s₂ := by
  refine wpAny_newObj_type (wpAny_newFunctionEnv hcell (by intro y hy; simp at hy) (fun h₁ hns₁ hsb₁ => ?_) hkind)
  dsimp only at hns₁ hsb₁ ⊢
  generalize hH2 : s₂.heap.push { cls := .type "list", dict := none, data := .seq ([] : List Value).toArray } = H2 at hns₁ hsb₁ ⊢
  have hC : H2.objs.size = s₂.heap.objs.size + 1 := by rw [← hH2, Heap.size_push]
  have hDC : s₂.heap.objs.size ≠ H2.objs.size := by rw [hC]; exact Nat.ne_of_lt (Nat.lt_succ_self _)
  have below : ∀ b, b < s₂.heap.objs.size → b ≠ H2.objs.size ∧ b ≠ s₂.heap.objs.size := fun b hb => ⟨by rw [hC]; exact Nat.ne_of_lt (Nat.lt_succ_of_lt hb), Nat.ne_of_lt hb⟩
  have hDf : s₂.heap.objs.size ∉ fp := fun hm => Nat.lt_irrefl _ (hfp _ hm)
  have hCf : H2.objs.size ∉ fp := fun hm => by have := hfp _ hm; rw [hC] at this; exact Nat.lt_irrefl _ (Nat.lt_of_succ_lt this)
  have old : ∀ b o, s₂.heap.get? b = some o → h₁.get? b = some o := fun b o e => hsb₁.extBut b o (below b (Heap.lt_size e)).1 (Heap.get?_push_of_some _ (hH2 ▸ Heap.get?_push_of_some _ e))
  have hacc : h₁.get? s₂.heap.objs.size = some (LCg.lst []) := hsb₁.extBut _ _ hDC (Heap.get?_push_of_some _ (hH2 ▸ Heap.get?_push_size _ rfl))
  have hst₁ : St 0 h₁ := W.frame _ _ _ hst fun b _ o e => old b o e
  have fresh₀ : ∀ a, s₂.heap.objs.size ≤ a → h₀.get? a = none := fun a ha => by
    cases e : h₀.get? a with
    | none => rfl
    | some o' => exact absurd (Heap.lt_size (F.keep a o' e)) (Nat.not_lt.mpr ha)
  have hD₀ : h₀.get? s₂.heap.objs.size = none := fresh₀ _ (Nat.le_refl _)
  have hC₀ : h₀.get? H2.objs.size = none := fresh₀ _ (by rw [hC]; exact Nat.le_succ _)
  have hLlt : L < s₂.heap.objs.size := F.ns.lt
  have hDL : s₂.heap.objs.size ≠ L := Ne.symm (below L hLlt).2
  have hCL : H2.objs.size ≠ L := Ne.symm (below L hLlt).1
  have hLw : L ∉ wr := fun h => hLf (W.sub _ h)
  have hCw : H2.objs.size ∉ wr := fun h => hCf (W.sub _ h)
  have hDw : s₂.heap.objs.size ∉ wr := fun h => hDf (W.sub _ h)
  have olds : ∀ b o, h₀.get? b = some o → b ∉ wr := fun b o e hb => by rw [hwr b hb] at e; cases e
  have loop : ∀ s₃ : Shared, s₃ = { s₂ with heap := h₁, toks := s₂.toks + ([] : List (Str × Value)).length } →
      codeAny (model prog w) A (.compLoop (.ListComp elt [⟨target, iter, [], 0⟩] scope pos) 0 (.ref I) (.ref s₂.heap.objs.size) (compEnvC scope cl H2.objs.size env)) (RR (.ref s₂.heap.objs.size) H2.objs.size) s₃ := by
    rintro s₃ rfl
    refine kcp_loop
      (fun k s' => CkI s₂ h₀ L m n St H2.objs.size s₂.heap.objs.size wr news J k s') ?_ (n + 1)
      ⟨h₁, _, 0, [], _, [], rfl, Nat.le_refl _, Nat.zero_le _, rfl, rfl, hst₁, F.keeps old, hns₁, fun p hp => ?_, fun p hp => ?_, h0⟩
    · rintro k s' ⟨h', tk, i, ys, m', tl, rfl, htk, hi, rfl, hyl, hst', F', hn', N', off', hJ⟩
      have next : ∀ h₂ : Heap, (∀ b o, b ∉ wr → h'.get? b = some o → h₂.get? b = some o) → Fr h₀ L h₂ m ∧ News h₀ L h₂ ((s₂.heap.objs.size, LCg.lst ys) :: (tl ++ news)) ∧ h₂.Ns H2.objs.size m' := fun h₂ hk₂ =>
        ⟨⟨F'.ns.at' fun o e => hk₂ _ o hLw e, fun b o e => hk₂ b o (olds b o e) (F'.keep b o e), F'.above⟩, fun p hp => ⟨hk₂ _ _ (by
          rcases List.mem_cons.mp hp with rfl | hp
          · exact hDw
          · exact (off' p hp).2.2) (N' p hp).1, (N' p hp).2⟩, hn'.at' fun o e => hk₂ _ o hCw e⟩
      by_cases hlt : i < n
      · refine wpAny_with_toks (n := s₂.toks) htk (W.item i _ _ _ hlt hst' fun v h₂ tk₂ hMd hk₂ htk₂ => ?_)
        refine W.go i v _ _ _ hMd fun h₃ hP hst₃ hk₃ => ?_
        obtain ⟨F₃, N₃, hn₃⟩ := next h₃ fun b o hb x => hk₃ b o hb (hk₂ b o hb x)
        refine asg i v _ _ _ _ _ hlt hP (fun p hp => N₃ p (.tail _ (List.mem_append_right _ hp))) hn₃ fun h₄ tk₄ m₄ htk₄ hn₄ hB hk₄ => ?_
        obtain ⟨oC, heC, hoC⟩ := LCg.ns_obj hn₄
        have F₄ : Fr h₀ L h₄ m := ⟨F₃.ns.at' fun o e => hk₄ _ o (Ne.symm hCL) e, fun c o e => hk₄ c o (fun q => by rw [q, hC₀] at e; cases e) (F₃.keep c o e), F₃.above⟩
        have hst₄ : St (i + 1) h₄ := W.frame _ _ _ hst₃ fun b hb o e => hk₄ b o (fun q => hCf (by rw [← q]; exact hb)) e
        have Nown : News h₀ L h₄ (PyProof.Rows.ownOf h₀ fp h₄) := news_ownOf hLf
        have N₄ : News h₀ L h₄ ((H2.objs.size, oC) :: (s₂.heap.objs.size, LCg.lst ys) :: ((tl ++ news) ++ PyProof.Rows.ownOf h₀ fp h₄)) := fun q hq => by
          rcases List.mem_cons.mp hq with rfl | hq
          · exact ⟨heC, hCL, hC₀⟩
          · rcases List.mem_cons.mp hq with rfl | hq
            · have z := N₃ _ (.head _); exact ⟨hk₄ _ _ hDC z.1, z.2⟩
            · rcases List.mem_append.mp hq with hq | hq
              · have z := N₃ q (.tail _ hq); exact ⟨hk₄ _ _ (off' q hq).1 z.1, z.2⟩
              · exact Nown q hq
        refine wpAny_with_toks (n := s₂.toks) (Nat.le_trans htk₂ htk₄) (wpAny_mono (turn i ys tl _ _ oC _ m₄ h₄ tk₄ _ hlt (Nat.le_trans htk₂ htk₄) hJ hB hoC F₄ N₄ (Ne.symm hDC) (fun p hp => List.mem_append_left _ (List.mem_append_right _ hp)) (fun p hp => List.mem_append_left _ (List.mem_append_left _ hp))) (fun y s₅ h₅ => ?_) fun _ _ e _ => e)
        obtain ⟨h₅, tk₅, tl', rfl, F₅, N₅, hlt5, hJ₅⟩ := h₅
        intro htk₅
        have sub5 : ∀ q ∈ (H2.objs.size, oC) :: (s₂.heap.objs.size, LCg.lst ys) :: ((tl ++ news) ++ PyProof.Rows.ownOf h₀ fp h₄), h₅.get? q.1 = some q.2 := fun q hq => (N₅ q (List.mem_append_right _ hq)).1
        have zC := sub5 _ (.head _)
        have zD := sub5 _ (.tail _ (.head _))
        have hst₅ : St (i + 1) h₅ := W.frame _ _ _ hst₄ fun b hb o e => by
          cases hn : h₀.get? b with
          | some o₀ =>
            have q := F₄.keep b o₀ hn
            rw [e] at q
            cases q
            exact F₅.keep b _ hn
          | none => exact sub5 (b, o) (.tail _ (.tail _ (List.mem_append_right _ (mem_ownOf hb hn e))))
        refine append_at (hsz := by show ys.toArray.size ≤ sizeLine; rw [List.size_toArray, hyl]; exact Nat.le_trans hi hsz) zD fun h₆ hs₆ hD₆ => ?_
        have offn : ∀ p ∈ (tl' ++ tl) ++ news, p.1 ≠ H2.objs.size ∧ p.1 ≠ s₂.heap.objs.size ∧ p.1 ∉ wr := fun p hp => by
          rw [List.append_assoc] at hp
          rcases List.mem_append.mp hp with hp | hp
          · have l := hlt5 p hp
            refine ⟨Nat.ne_of_gt (l _ (.head _)), Nat.ne_of_gt (l _ (.tail _ (.head _))), fun hb => ?_⟩
            obtain ⟨o, ho⟩ : ∃ o, h₄.get? p.1 = some o := by
              have a1 := (N₅ p (List.mem_append_left _ hp))
              by_cases hx : ∃ o, h₄.get? p.1 = some o
              · exact hx
              · exfalso
                have hlt4 := hfp p.1 (W.sub _ hb)
                have h7 := l _ (.tail _ (.head _))
                exact Nat.lt_asymm hlt4 h7
            have h8 := l _ (.tail _ (.tail _ (List.mem_append_right _ (mem_ownOf (W.sub _ hb) (hwr _ hb) ho))))
            exact Nat.lt_irrefl _ h8
          · exact off' p hp
        refine ⟨n + 1 - (i + 1), by omega, h₆, tk₅, i + 1, ys ++ [y], m₄, tl' ++ tl, rfl, htk₅, hlt, rfl, by rw [List.length_append, List.length_singleton, hyl], W.frame _ _ _ hst₅ fun b hb o e => hs₆.extBut b o (fun q => hDf (q ▸ hb)) e, F₅.change hs₆ hDL hD₀,
          (hoC.ns zC).sameBut hs₆ (Ne.symm hDC), fun p hp => ?_, offn, hJ₅⟩
        rcases List.mem_cons.mp hp with rfl | hp
        · exact ⟨hD₆.trans (congrArg some (LCg.lst_snoc ys y)), hDL, hD₀⟩
        · have o1 := offn p hp
          rw [List.append_assoc] at hp
          have z : h₅.get? p.1 = some p.2 ∧ p.1 ≠ L ∧ h₀.get? p.1 = none := by
            rcases List.mem_append.mp hp with hp | hp
            · exact N₅ p (List.mem_append_left _ hp)
            · exact N₅ p (List.mem_append_right _ (.tail _ (.tail _ (List.mem_append_left _ hp))))
          exact ⟨hs₆.extBut _ _ o1.2.1 z.1, z.2⟩
      · obtain rfl : i = n := Nat.le_antisymm hi (Nat.not_lt.mp hlt)
        refine wpAny_with_toks (n := s₂.toks) htk (W.done _ _ _ hst' fun h₂ tk₂ hk₂ htk₂ => ?_)
        obtain ⟨F₂, N₂, hn₂⟩ := next h₂ hk₂
        exact hRR _ _ h₂ tk₂ _ ys tl htk₂ F₂ N₂ (fun p hp => ⟨(off' p hp).1, (off' p hp).2.1⟩) hn₂ hC₀ hD₀ hCL hDL (Ne.symm hDC) hJ
    · rcases List.mem_cons.mp hp with rfl | hp
      · exact ⟨hacc, hDL, hD₀⟩
      · exact ⟨old _ _ (N p hp).1, (N p hp).2⟩
    · have hlp := Heap.lt_size (N p hp).1
      exact ⟨(below _ hlp).1, (below _ hlp).2, hnw p hp⟩
  exact codeAny_compStart_list (loop _ rfl) (self _ _ _ hst₁ (loop _ rfl))
end
def CkEnd (h₀ : Heap) (L : Addr) (m : Str → Option Value) (s₂ : Shared) (C : Addr) (oC : Obj) (D : Addr) (ys : List Value) (led : List (Addr × Obj)) (J : Value → List (Addr × Obj) → Prop) (y : Value) (s' : Shared) : Prop :=
  ∃ h' tk' tl', s' = { s₂ with heap := h', toks := tk' } ∧ Fr h₀ L h' m ∧ News h₀ L h' (tl' ++ (C, oC) :: (D, LCg.lst ys) :: led) ∧ (∀ p ∈ tl', ∀ q ∈ (C, oC) :: (D, LCg.lst ys) :: led, q.1 < p.1) ∧ J y tl'
inductive CkAny (prog : Program) (w : World) (A : Around) (h₀ : Heap) (L : Addr) (m : Str → Option Value) (env : Env) (elt target : PySem.Expr) (scope : Scope) (cl : List (Str × Addr)) (Q : Value → Shared → Prop) (it : Value) (s₂ : Shared) : Prop
  | mk (I : Addr) (fp wr : List Addr) (n : Nat) (P Md : Nat → Value → Heap → Prop) (St : Nat → Heap → Prop) (news : List (Addr × Obj)) (Bd : Nat → (Str → Option Value) → Prop) (J : Nat → List Value → List (Addr × Obj) → Prop)
    (e1 : it = .ref I) (e2 : KTurns prog w A target I fp wr n P Md St) (e3 : n ≤ sizeLine) (e4 : ∀ (s : Shared) (Q : Value → Shared → Prop) (E : Value → Shared → Prop), St 0 s.heap → Q (.ref I) s → wpAny (model prog w) A (pyIter (.ref I)) Q E s)
    (e5 : ∀ i v C (s : Shared) m' (Q : Unit → Shared → Prop) (E : Value → Shared → Prop), i < n → P i v s.heap → News h₀ L s.heap news → s.heap.Ns C m' → (∀ h' tk' m'', s.toks ≤ tk' → h'.Ns C m'' → Bd i m'' → (∀ b o, b ≠ C → s.heap.get? b = some o → h'.get? b = some o) → Q () { s with heap := h', toks := tk' }) → wpAny (model prog w) A (assign target (compEnvC scope cl C env) v) Q E s)
    (e6 : St 0 s₂.heap) (e7 : ∀ b ∈ fp, b < s₂.heap.objs.size) (e8 : Fr h₀ L s₂.heap m) (e9 : News h₀ L s₂.heap news) (e10 : L ∉ fp) (e11 : ∀ b ∈ wr, h₀.get? b = none) (e12 : ∀ p ∈ news, p.1 ∉ wr) (e13 : J 0 [] [])
    (e14 : ∀ i ys tl led C oC D m₂ h tk (E' : Value → Shared → Prop), i < n → s₂.toks ≤ tk → J i ys tl → Bd i m₂ → LCg.NsObj oC m₂ → Fr h₀ L h m → News h₀ L h ((C, oC) :: (D, LCg.lst ys) :: led) → (@Ne Nat C D) → (∀ p ∈ news, p ∈ led) → (∀ p ∈ tl, p ∈ led) →
      wpAny (model prog w) A (eval elt (compEnvC scope cl C env)) (CkEnd h₀ L m s₂ C oC D ys led (fun y tl' => J (i + 1) (ys ++ [y]) (tl' ++ tl))) E' { s₂ with heap := h, toks := tk })
    (e15 : ∀ D h tk ys tl, s₂.toks ≤ tk → Fr h₀ L h m → News h₀ L h ((D, LCg.lst ys) :: (tl ++ news)) → (∀ p ∈ tl ++ news, p.1 ≠ D) → J n ys tl → Q (.ref D) { s₂ with heap := h, toks := tk }) : CkAny prog w A h₀ L m env elt target scope cl Q it s₂
section
variable {prog : Program} {w : World} {A : Around} {E : Value → Shared → Prop} {s : Shared} {h₀ : Heap} {L : Addr} {m : Str → Option Value} {env : Env}
theorem ListComp_K {elt target iter : PySem.Expr} {scope : Scope} {cl : List (Str × Addr)} {pos : Pos} {Q : Value → Shared → Prop} (F₀ : Fr h₀ L s.heap m)
    (hclos : closureFor scope env = pure cl) (hcell : ∀ y ∈ scope.names, y.2 ≠ .cell) (hkind : scope.kind = .function)
    (hnames : ∀ y ∈ scope.names, y.2 = .local → scope.names.lookup y.1 = some .local)
    (h : wpAny (model prog w) A (eval iter env) (fun xv s₁ => wpAny (model prog w) A (pyIter xv) (fun it s₂ => CkAny prog w A h₀ L m env elt target scope cl Q it s₂) E s₁) E s)
    (hs : ∀ x, foldedSetIterable iter env x = pure x := by intro _; rfl) :
    wpAny (model prog w) A (eval (.ListComp elt [⟨target, iter, [], 0⟩] scope pos) env) Q E s := by
  rw [eval_ListComp]
  refine wpAny_comprehension_free (use := none) rfl hs hclos hkind hnames (wpAny_mono h (fun xv s₁ h₁ => wpAny_mono h₁ (fun it s₂ h₂ => ?_) fun _ _ e => e) fun _ _ e => e)
  obtain ⟨I, fp, wr, n, P, Md, St, news, Bd, J, rfl, W, hsz, self, asg, hst, hfp, F, N, hLf, hwr, hnw, h0, turn, fin⟩ := h₂
  refine ck_block W hsz self asg hcell hkind hst hfp F N hLf hwr hnw J h0 turn ?_
  intro D C h' tk m' ys tl htk F' N' off hn hC₀ hD₀ hCL hDL hCD hJ
  refine ⟨m', hn, fun h'' hs'' => fin D h'' tk ys tl htk (F'.change hs'' hCL hC₀) (fun p hp => ?_) (fun p hp => (off p hp).2) hJ⟩
  refine ⟨hs''.extBut _ _ ?_ (N' p hp).1, (N' p hp).2⟩
  rcases List.mem_cons.mp hp with rfl | hp
  · exact Ne.symm hCD
  · exact (off p hp).1
theorem ck_range {elt : PySem.Expr} {x : Str} {px : Pos} {scope : Scope} {cl : List (Str × Addr)} {r : Addr} {a b : Int} {t u v : Tok} {n : Nat} {news : List (Addr × Obj)} {s₁ : Shared} {Q : Value → Shared → Prop}
    (hh : A.handled = none) (F : Fr h₀ L s₁.heap m) (N : News h₀ L s₁.heap news) (hr : IsRange s₁.heap r a b 1 t u v) (hsm : Builtin.Range.small a b 1 = true) (hn : Builtin.Range.rangeSize a b 1 = ((n : Nat) : Int)) (hsz : n ≤ sizeLine)
    (hkind : scope.kind = .function) (hx : scope.names.lookup x = some .local)
    (J : Nat → List Value → List (Addr × Obj) → Prop) (h0 : J 0 [] [])
    (turn : ∀ i ys tl led C oC D m₂ h tk t' (E' : Value → Shared → Prop), i < n → s₁.toks ≤ tk → J i ys tl → m₂ x = some (.int (a + (i : Int)) t') → LCg.NsObj oC m₂ → Fr h₀ L h m → News h₀ L h ((C, oC) :: (D, LCg.lst ys) :: led) → (@Ne Nat C D) → (∀ p ∈ news, p ∈ led) → (∀ p ∈ tl, p ∈ led) →
      wpAny (model prog w) A (eval elt (compEnvC scope cl C env)) (CkEnd h₀ L m s₁ C oC D ys led (fun y tl' => J (i + 1) (ys ++ [y]) (tl' ++ tl))) E' { s₁ with heap := h, toks := tk })
    (fin : ∀ D h tk ys tl, s₁.toks ≤ tk → Fr h₀ L h m → News h₀ L h ((D, LCg.lst ys) :: (tl ++ news)) → (∀ p ∈ tl ++ news, p.1 ≠ D) → J n ys tl → Q (.ref D) { s₁ with heap := h, toks := tk }) :
    wpAny (model prog w) A (pyIter (.ref r)) (fun it s₂ => CkAny prog w A h₀ L m env elt (.Name x px) scope cl Q it s₂) E s₁ := by
  refine wpAny_pyIter_range hr hsm ?_
  have up : ∀ (c : Addr) o, s₁.heap.get? c = some o → (s₁.heap.push { cls := .type "range_iterator", data := .fields #[rawInt a, rawInt (Builtin.Range.rangeSize a b 1), rawInt 1] }).get? c = some o := fun c o e => Heap.get?_push_of_some _ e
  refine ⟨s₁.heap.objs.size, [s₁.heap.objs.size], [s₁.heap.objs.size], n, _, _, _, news, fun i m₂ => ∃ t', m₂ x = some (.int (a + (i : Int)) t'), J, rfl, KTurns.ofWalks (LCg.range_walks hh a n) (fun i v s Q E hst hq => by unfold letOwnedTupleGo; exact wpAny_pure hq), hsz,
    fun s Q E hst hq => (LCg.range_walks hh a n).self 0 s Q E hst hq, ?_, by show IsRangeIter _ _ _ _ _; rw [hn]; simpa using Heap.get?_push_size _ rfl, ?_, F.keeps (fun _ _ e => Heap.get?_push_of_some _ e), N.grown (fun _ _ e => Heap.get?_push_of_some _ e), ?_, ?_, ?_, h0, ?_, ?_⟩
  · intro i v C s' m' Q' E' hi hP _ hns hq
    obtain ⟨t', rfl⟩ := hP
    refine wpAny_assign_Name (wpAny_storeName_local (lookup_relabel_local hx) hns (fun h₃ hn₃ hs₃ => hq h₃ _ _ (Nat.le_succ _) hn₃ ⟨t', by simp⟩ (fun c o hc e => hs₃.extBut c o hc e)) (by simp [compEnvC, relabel, hkind]))
  · intro c hc
    rw [List.mem_singleton.mp hc]
    show s₁.heap.objs.size < (s₁.heap.push _).objs.size
    rw [Heap.size_push]; exact Nat.lt_succ_self _
  · intro hc; exact Nat.ne_of_lt F.ns.lt (List.mem_singleton.mp hc)
  · intro c hc; rw [List.mem_singleton.mp hc]; exact next_is_new F
  · intro p hp hc; exact Nat.ne_of_lt (Heap.lt_size (N p hp).1) (List.mem_singleton.mp hc)
  · intro i ys tl led C oC D m₂ h tk E' hi htk hJ hB
    obtain ⟨t', ht'⟩ := hB
    exact turn i ys tl led C oC D m₂ h tk t' E' hi htk hJ ht'
  · exact fin
end
theorem ListComp_KT {prog : Program} {w : World} {A : Around} {E : Value → Shared → Prop} {s : Shared} {h₀ : Heap} {L : Addr} {m : Str → Option Value} {env : Env} {elt target iter : PySem.Expr} {scope : Scope} {cl : List (Str × Addr)} {pos : Pos} {Q : Value → Shared → Prop} (F₀ : Fr h₀ L s.heap m) (ht : 0 < s.toks)
    (hclos : closureFor scope env = pure cl) (hcell : ∀ y ∈ scope.names, y.2 ≠ .cell) (hkind : scope.kind = .function)
    (hnames : ∀ y ∈ scope.names, y.2 = .local → scope.names.lookup y.1 = some .local)
    (h : wpAny (model prog w) A (eval iter env) (fun xv s₁ => 0 < s₁.toks → wpAny (model prog w) A (pyIter xv) (fun it s₂ => CkAny prog w A h₀ L m env elt target scope cl Q it s₂) E s₁) E s)
    (hs : ∀ x, foldedSetIterable iter env x = pure x := by intro _; rfl) :
    wpAny (model prog w) A (eval (.ListComp elt [⟨target, iter, [], 0⟩] scope pos) env) Q E s :=
  ListComp_K F₀ hclos hcell hkind hnames (wpAny_mono (wpAny_toks_of (n := 1) ht h) (fun _ _ x => x.2 x.1) fun _ _ x => x.2) hs
theorem ck_assign {prog : Program} {w : World} {A : Around} {E : Value → Shared → Prop} {s : Shared} {env : Env} {a b c : Str} {pa pb pc tp up : Pos} {k1 k2 : Nat} {T U : Addr} {x y z : Value} {m : Str → Option Value} {Q : Unit → Shared → Prop} (hh : A.handled = none) (ht : s.heap.IsTuple T #[.ref U, z]) (hu : s.heap.IsTuple U #[x, y])
    (ha : env.kindOf a = some .local) (hb : env.kindOf b = some .local) (hc : env.kindOf c = some .local) (hp : (env.scope.kind == .class || (env.scope.kind == .module && env.locals != env.globals)) = false) (hn : s.heap.Ns env.locals m)
    (h : ∀ (h' : Heap) (tk : Nat), s.toks ≤ tk → h'.Ns env.locals (fun q => if q = c then some z else if q = b then some y else if q = a then some x else m q) → (∀ d o, d ≠ env.locals → s.heap.get? d = some o → h'.get? d = some o) → Q () { s with heap := h', toks := tk }) :
    wpAny (model prog w) A (assign (.Tuple [.Tuple [.Name a pa, .Name b pb] k1 tp, .Name c pc] k2 up) env (.ref T)) Q E s := by
  have hL : env.locals ≠ s.heap.objs.size := Nat.ne_of_lt hn.lt
  obtain ⟨oU, hU1, hU2⟩ := hu
  have hLU : U ≠ env.locals := fun q => by
    obtain ⟨o, es, ep, ho, hd, _⟩ := hn
    rw [q, ho] at hU1
    cases hU1
    obtain ⟨_, n, hdu⟩ := hU2
    rw [hd] at hdu; cases hdu
  refine wpAny_with_toks (n := s.toks) (Nat.le_refl _) (wpAny_assign_Tuple hh ht rfl rfl fun h₁ he₁ => ?_)
  have hn₁ : h₁.Ns env.locals m := hn.at' fun o e => he₁ _ o hL e
  have up₁ : ∀ d o, s.heap.get? d = some o → h₁.get? d = some o := fun d o e => he₁ d o (Nat.ne_of_lt (Heap.lt_size e)) e
  show wpAny _ _ (assignInOrder [assign (.Tuple [.Name a pa, .Name b pb] k1 tp) env, assign (.Name c pc) env] [.ref U, z]) _ _ _
  refine assignInOrder_cons ?_
  refine kcp_assign (T := U) (x := x) (y := y) hh ⟨oU, up₁ _ _ hU1, hU2⟩ ha hb hp hn₁ fun h₂ tk₂ hn₂ up₂ => ?_
  refine assignInOrder_cons ?_
  refine wpAny_assign_Name (wpAny_storeName_local hc hn₂ (fun h₃ hn₃ hs₃ => ?_) hp)
  refine assignInOrder_nil ?_
  intro htk
  exact h h₃ _ htk hn₃ fun d o hd e => hs₃.extBut d o hd (up₂ d o hd (up₁ d o e))
section
variable {prog : Program} {w : World} {A : Around} {E : Value → Shared → Prop} {s : Shared} {h₀ : Heap} {L : Addr} {m : Str → Option Value} {env : Env}
theorem ck_zip {elt : PySem.Expr} {a b c : Str} {pa pb pc tp up : Pos} {k1 k2 : Nat} {scope : Scope} {cl : List (Str × Addr)} {l1 l2 : Addr} {xs ys : List Value} {news : List (Addr × Obj)} {Q : Value → Shared → Prop} {PV : Nat → Value → Value → Prop}
    (hh : A.handled = none) (F : Fr h₀ L s.heap m) (N : News h₀ L s.heap news) (hm1 : (l1, LCg.lst xs) ∈ news) (hm2 : (l2, LCg.lst ys) ∈ news) (hlen : ys.length = xs.length) (hsz : xs.length ≤ 1000)
    (hx : ∀ (i : Nat) (x : Value), xs[i]? = some x → ∃ (T : Addr) (v1 v2 : Value), x = .ref T ∧ (T, ({ cls := .type "tuple", data := .seq #[v1, v2] } : Obj)) ∈ news ∧ PV i v1 v2)
    (hkind : scope.kind = .function) (ha : scope.names.lookup a = some .local) (hb : scope.names.lookup b = some .local) (hc : scope.names.lookup c = some .local) (hab : a ≠ b) (hac : a ≠ c) (hbc : b ≠ c)
    (J : Nat → List Value → List (Addr × Obj) → Prop) (h0 : J 0 [] [])
    (turn : ∀ i vs tl led C oC D m₂ h tk v1 v2 y (E' : Value → Shared → Prop), i < xs.length → s.toks ≤ tk → J i vs tl → PV i v1 v2 → ys[i]? = some y → m₂ a = some v1 → m₂ b = some v2 → m₂ c = some y → LCg.NsObj oC m₂ → Fr h₀ L h m → News h₀ L h ((C, oC) :: (D, LCg.lst vs) :: led) → (@Ne Nat C D) → (∀ p ∈ news, p ∈ led) → (∀ p ∈ tl, p ∈ led) →
      wpAny (model prog w) A (eval elt (compEnvC scope cl C env)) (CkEnd h₀ L m s C oC D vs led (fun y tl' => J (i + 1) (vs ++ [y]) (tl' ++ tl))) E' { s with heap := h, toks := tk })
    (fin : ∀ D h tk vs tl, s.toks ≤ tk → Fr h₀ L h m → News h₀ L h ((D, LCg.lst vs) :: (tl ++ news)) → (∀ p ∈ tl ++ news, p.1 ≠ D) → J xs.length vs tl → Q (.ref D) { s with heap := h, toks := tk }) :
    wpAny (model prog w) A (call (.type "zip") [.ref l1, .ref l2]) (fun xv s₁ => wpAny (model prog w) A (pyIter xv) (fun it s₂ => CkAny prog w A h₀ L m env elt (.Tuple [.Tuple [.Name a pa, .Name b pb] k1 tp, .Name c pc] k2 up) scope cl Q it s₂) E s₁) E s := by
  have hax1 := N _ hm1
  have hax2 := N _ hm2
  have hl1 : s.heap.IsList l1 xs.toArray := ⟨_, hax1.1, rfl, _, rfl⟩
  have hl2 : s.heap.IsList l2 ys.toArray := ⟨_, hax2.1, rfl, _, rfl⟩
  have hlt1 : l1 < s.heap.objs.size := Heap.lt_size hax1.1
  have hlt2 : l2 < s.heap.objs.size := Heap.lt_size hax2.1
  have hLs : L < s.heap.objs.size := F.ns.lt
  have D : ZipApart (s.heap.objs.size + 4) (s.heap.objs.size + 2) (s.heap.objs.size + 3) s.heap.objs.size (s.heap.objs.size + 1) l1 l2 := ktu_apart _ _ _ hlt1 hlt2
  refine call_zip_2 hl1 hl2 fun h' hz hTI hTO hi1 hi2 hsz' hk => ?_
  refine wpAny_pyIter_zip hz ?_
  have hmin : min xs.toArray.size ys.toArray.size = xs.length := by simp [hlen]
  refine ⟨s.heap.objs.size + 4, _, _, _, _, _, _, news, fun i m₂ => ∃ v1 v2 y, PV i v1 v2 ∧ ys[i]? = some y ∧ m₂ a = some v1 ∧ m₂ b = some v2 ∧ m₂ c = some y, J, rfl, KTurns.ofWalksU (WalksT.zip2 hh _ _ _ _ _ _ _ D xs.toArray ys.toArray).toU, by rw [hmin, PySem.sizeLine_eq]; omega,
    fun s Q E hst hq => wpAny_pyIter_zip hst.1 hq, ?_, ⟨hz, hTI, ⟨_, _, hTO⟩, hi1, hi2, hl1.at fun o e => hk _ o e, hl2.at fun o e => hk _ o e⟩, ?_, F.keeps hk, N.grown hk, ?_, ?_, ?_, h0, ?_, ?_⟩
  · rintro i v C s' m' Q' E' hi ⟨T, vals, rfl, ⟨x, y, e1, e2, rfl⟩, hT⟩ N' hns hq
    obtain ⟨U, v1, v2, rfl, hU, hPV⟩ := hx i x (by simpa using e1)
    refine ck_assign (env := compEnvC scope cl C env) (U := U) (x := v1) (y := v2) hh hT ⟨_, (N' _ hU).1, rfl, _, rfl⟩ (lookup_relabel_local ha) (lookup_relabel_local hb) (lookup_relabel_local hc) (by simp [compEnvC, relabel, hkind]) hns fun h₂ tk₂ htk₂ hn₂ up₂ => ?_
    exact hq h₂ tk₂ _ htk₂ hn₂ ⟨v1, v2, y, hPV, by simpa using e2, by simp [hab, hac], by simp [hbc], by simp⟩ up₂
  · intro b' hb'
    have hb' : b' = s.heap.objs.size + 4 ∨ b' = s.heap.objs.size + 2 ∨ b' = s.heap.objs.size + 3 ∨ b' = s.heap.objs.size ∨ b' = s.heap.objs.size + 1 ∨ b' = l1 ∨ b' = l2 := by simpa using hb'
    show b' < h'.objs.size
    rw [hsz']
    have h1 : @LT.lt Nat _ l1 s.heap.objs.size := hlt1
    have h2 : @LT.lt Nat _ l2 s.heap.objs.size := hlt2
    show @LT.lt Nat _ b' _
    rcases hb' with rfl | rfl | rfl | rfl | rfl | rfl | rfl <;> omega
  · intro hI'
    have hb' : L = s.heap.objs.size + 4 ∨ L = s.heap.objs.size + 2 ∨ L = s.heap.objs.size + 3 ∨ L = s.heap.objs.size ∨ L = s.heap.objs.size + 1 ∨ L = l1 ∨ L = l2 := by simpa using hI'
    rcases hb' with e | e | e | e | e | e | e
    · exact ktu_ne 4 hLs e
    · exact ktu_ne 2 hLs e
    · exact ktu_ne 3 hLs e
    · exact Nat.ne_of_lt hLs e
    · exact ktu_ne 1 hLs e
    · exact hax1.2.1 e.symm
    · exact hax2.2.1 e.symm
  · intro b' hb'
    have hb' : b' = s.heap.objs.size + 4 ∨ b' = s.heap.objs.size + 3 ∨ b' = s.heap.objs.size ∨ b' = s.heap.objs.size + 1 := by simpa using hb'
    rcases hb' with rfl | rfl | rfl | rfl
    · exact ktu_new F (Nat.le_add_right _ _)
    · exact ktu_new F (Nat.le_add_right _ _)
    · exact ktu_new F (Nat.le_refl _)
    · exact ktu_new F (Nat.le_add_right _ _)
  · intro p hp hI'
    have hb' : p.1 = s.heap.objs.size + 4 ∨ p.1 = s.heap.objs.size + 3 ∨ p.1 = s.heap.objs.size ∨ p.1 = s.heap.objs.size + 1 := by simpa using hI'
    have hlp := Heap.lt_size (N p hp).1
    rcases hb' with e | e | e | e
    · exact ktu_ne 4 hlp e
    · exact ktu_ne 3 hlp e
    · exact Nat.ne_of_lt hlp e
    · exact ktu_ne 1 hlp e
  · intro i vs tl led C oC D m₂ h tk E' hi htk hJ hB
    obtain ⟨v1, v2, y, hPV, hy, e1, e2, e3⟩ := hB
    exact turn i vs tl led C oC D m₂ h tk v1 v2 y E' (by rw [hmin] at hi; exact hi) htk hJ hPV hy e1 e2 e3
  · intro D h tk vs tl htk F' N' off hJ
    rw [hmin] at hJ
    exact fin D h tk vs tl htk F' N' off hJ
end
end
section
def dressL (l : List Nat) : List Nat := (List.range l.length).map fun k => if l.getD k 0 = 97 then 97 + k else 65 + k
theorem St_app (a b : List Nat) : St a ++ St b = St (a ++ b) := by
  show (⟨a.toArray ++ b.toArray⟩ : Str) = ⟨(a ++ b).toArray⟩
  simp
theorem join_chars : ∀ l : List Nat, Str.join (Str.ofString "") (l.map fun c => St [c]) = St l
  | [] => rfl
  | [_] => rfl
  | c :: d :: l => by
    have e : Str.ofString "" = St [] := by decide +kernel
    show St [c] ++ Str.ofString "" ++ Str.join (Str.ofString "") ((d :: l).map fun c => St [c]) = _
    rw [join_chars (d :: l), e, St_app, St_app]
    rfl
theorem glued_chars (l : List Nat) : Txt.join (Str.ofString "") (l.map fun c => St [c]) = St l := by
  show PySem.Builtin.Str.glued _ _ = _
  rw [StrLaws.glued_eq_join, join_chars]
theorem abc_item : ∀ i ∈ List.range 16, Txt.item (Str.ofString "abcdefghijklmnop") (i : Nat) = St [97 + i] ∧ Txt.item (Str.ofString "ABCDEFGHIJKLMNOP") (i : Nat) = St [65 + i] := by decide +kernel
theorem dressCh_at {l : List Nat} {i : Nat} (h : i < l.length) (hl : l.length ≤ 16) : dressCh l i = St [if l.getD i 0 = 97 then 97 + i else 65 + i] := by
  unfold dressCh
  have e : St [97] = Str.ofString "a" := by decide +kernel
  have ht := abc_item i (List.mem_range.mpr (by omega))
  rw [item_St rfl h, ← e, ht.1, ht.2]
  by_cases hc : l.getD i 0 = 97
  · rw [if_pos hc, if_pos (by rw [hc]; simp)]
  · rw [if_neg hc, if_neg]
    intro hb
    have := eq_of_beq hb
    unfold St at this
    simp at this
    exact hc (by simpa using this)
theorem dressOf_St {l : List Nat} (hl : l.length ≤ 16) : dressOf l = St (dressL l) := by
  unfold dressOf dressL
  rw [← glued_chars, List.map_map]
  congr 1
  unfold rangeKs
  rw [List.map_map]
  refine List.map_congr_left fun i hi => ?_
  have h := List.mem_range.mp hi
  show dressCh l (0 + (i : Int)) = _
  rw [Int.zero_add, dressCh_at h hl]
  rfl
theorem dressL_length (l : List Nat) : (dressL l).length = l.length := by simp [dressL]
theorem strs_at {vs : List Value} {xs : List Str} (h : StrsAre vs xs) : ∀ (i : Nat) (x : Str), xs[i]? = some x → ∃ t, vs[i]? = some (.str x t) := by
  induction h with
  | nil => intro i x hx; simp at hx
  | cons y t r ih =>
    intro i x hx
    cases i with
    | zero => simp at hx; subst hx; exact ⟨t, rfl⟩
    | succ i => simpa using ih i x (by simpa using hx)
theorem word_item {prog : Program} {w : World} {A : Around} {E : Value → Shared → Prop} {s : Shared} {h₀ : Heap} {L l : Addr} {led : List (Addr × Obj)} {vw : List Value} {wls : List (List Nat)} {n : Int} {u : Tok} {value slice : PySem.Expr} {Q : Value → Shared → Prop}
    (N : News h₀ L s.heap led) (hS : StrsAre vw (wls.map St)) (hm : (l, LCg.lst vw) ∈ led) (h0 : 0 ≤ n) (h1 : n < wls.length) (hz : wls.length ≤ 1000) (h : ∀ t, Q (.str (St (wls.getD n.toNat [])) t) s)
    (hsb : subscripted slice false (.ref l) (.int n u) = operate [.ref l, .int n u] (getItem (.ref l) (.int n u)) := by with_unfolding_all rfl) :
    wpAny (model prog w) A (subscriptTail value slice (.ref l) (.int n u)) Q E s := by
  have hl : s.heap.IsList l vw.toArray := ⟨_, (N _ hm).1, rfl, _, rfl⟩
  have hn : n.toNat < wls.length := by omega
  obtain ⟨t, ht⟩ := strs_at hS n.toNat (St (wls.getD n.toNat [])) (by simp [hn])
  exact tail_any hl.typeIs slot_list_getitem.lookup (wpAny_getItem_list hl h0 (by omega) (by simpa using ht) (h t)) hsb
theorem dressed_spec2 (w : World) (l : List Nat) (tx : Tok) (hl : l.length ≤ 16) : Spec2 w 4 75 [.str (St l) tx] (IsStr (St (dressL l))) := by
  rw [← dressOf_St hl]; exact dressed_spec w l tx hl
end
section
theorem six {j : Int} (h1 : 0 ≤ j) (h2 : j < 6) : j = 0 ∨ j = 1 ∨ j = 2 ∨ j = 3 ∨ j = 4 ∨ j = 5 := by
  obtain ⟨n, rfl⟩ := Int.eq_ofNat_of_zero_le h1
  exact (by decide : ∀ n : Nat, n < 6 → ((n : Int) = 0 ∨ (n : Int) = 1 ∨ (n : Int) = 2 ∨ (n : Int) = 3 ∨ (n : Int) = 4 ∨ (n : Int) = 5)) n (Int.ofNat_lt.mp h2)
theorem tok_at {a b c y : UInt64} {t u x t' : Tok} (ht : 0 < t) (hu : 0 < u) (hx : 0 < x) : ∀ i : Nat, ([.float a t, .float b u, .float c x] : List Value).toArray[i]? = some (Value.float y t') → 0 < t'
  | 0, h => by simp at h; rw [← h.2]; exact ht
  | 1, h => by simp at h; rw [← h.2]; exact hu
  | 2, h => by simp at h; rw [← h.2]; exact hx
  | k + 3, h => by simp at h
theorem best_threeT {a b c : UInt64} {t u x : Tok} {q : UInt64 → UInt64 → Bool} {v : Value} (ht : 0 < t) (hu : 0 < u) (hx : 0 < x) (h : ([.float a t, .float b u, .float c x] : List Value).toArray[argBest (fun i j => q (fl3 a b c i) (fl3 a b c j)) 2]? = some v) :
    ∃ t', 0 < t' ∧ v = .float (if q b a then (if q c b then c else b) else (if q c a then c else a)) t' := by
  obtain ⟨t', rfl⟩ := best_three (q := q) h
  exact ⟨t', tok_at ht hu hx _ h, rfl⟩
theorem max3T_call {prog : Program} {w : World} {A : Around} {E : Value → Shared → Prop} {s : Shared} {a b c : UInt64} {t u x : Tok} {h₀ : Heap} {L : Addr} {m : Str → Option Value} {news : List (Addr × Obj)} {Q : Value → Shared → Prop} (hh : A.handled = none) (F : Fr h₀ L s.heap m) (N : News h₀ L s.heap news) (ht : 0 < t) (hu : 0 < u) (hx : 0 < x) (hs : 0 < s.toks)
    (h : ∀ t' h' tk, 0 < t' → 0 < tk → Fr h₀ L h' m → News h₀ L h' news → Q (.float (max3 a b c) t') { s with heap := h', toks := tk }) :
    wpAny (model prog w) A (call (.builtin "max") [.float a t, .float b u, .float c x]) Q E s :=
  wpAny_with_toks (n := 1) hs (call_max_three (bestOf (vs := [.float a t, .float b u, .float c x]) (Q := fun v s' => 1 ≤ s'.toks → Q v s') hh cmpF_gt (by simp) fun v h' tk hv hk => by
    intro htk
    obtain ⟨t', ht', rfl⟩ := best_threeT (q := gtF) ht hu hx hv
    exact h t' h' tk ht' htk (F.grownK hk) (N.grown hk)))
theorem min3T_call {prog : Program} {w : World} {A : Around} {E : Value → Shared → Prop} {s : Shared} {a b c : UInt64} {t u x : Tok} {h₀ : Heap} {L : Addr} {m : Str → Option Value} {news : List (Addr × Obj)} {Q : Value → Shared → Prop} (hh : A.handled = none) (F : Fr h₀ L s.heap m) (N : News h₀ L s.heap news) (hs : 0 < s.toks)
    (h : ∀ t' h' tk, 0 < tk → Fr h₀ L h' m → News h₀ L h' news → Q (.float (min3 a b c) t') { s with heap := h', toks := tk }) :
    wpAny (model prog w) A (call (.builtin "min") [.float a t, .float b u, .float c x]) Q E s :=
  wpAny_with_toks (n := 1) hs (call_min_three (bestOf (vs := [.float a t, .float b u, .float c x]) (Q := fun v s' => 1 ≤ s'.toks → Q v s') hh cmpF_lt (by simp) fun v h' tk hv hk => by
    intro htk
    obtain ⟨t', rfl⟩ := best_three (q := ltF) hv
    exact h t' h' tk htk (F.grownK hk) (N.grown hk)))
def IsTupT (p : UInt64 × UInt64 × UInt64) (v : Value) (new : List (Addr × Obj)) : Prop := ∃ D t1 t2 t3, v = .ref D ∧ new = [(D, flt3of p t1 t2 t3)] ∧ 0 < t1 ∧ 0 < t2 ∧ 0 < t3
/-- as Spec, from a state whose tokens have begun -/
def SpecT (w : World) (d : Nat) (f : Addr) (vs : List Value) (Post : Value → List (Addr × Obj) → Prop) : Prop :=
  ∀ (loose : List Str) (mean : ExcName → Option Value) (mg mb : Str → Option Value) (news : List (Addr × Obj)) (dp un : Nat) (gd : Option (List Code)) (cn : Str) (cs : Scope) (a : Addr) (ccd : Value) (cl : List (Str × Addr)) (outer : List Env) (A₀ : Around) (base h₀ : Heap) (L : Addr) (m : Str → Option Value) (s : Shared) (Q E : Value → Shared → Prop),
    Below A₀ base outer h₀ → Fr h₀ L s.heap m → (hd.heap_39 w.params).In h₀ → News h₀ L s.heap news → Top topProg loose mean mg mb h₀ → cs.kind = .function → 0 < s.toks →
    dp + d < recursionLimit → un + 8 * d + 8 < cLine →
    (∀ v new h' tk', Post v new → (∀ p ∈ new, ∀ q ∈ news, q.1 < p.1) → Fr h₀ L h' m → News h₀ L h' (new ++ news) → 0 < tk' → Q v { s with heap := h', toks := tk' }) →
    wpAny (model PG w) (ktrTop dp un gd cn cs L a ccd cl outer) (call (.ref f) vs) Q E s
theorem retT_one {h₀ : Heap} {L : Addr} {m : Str → Option Value} {news : List (Addr × Obj)} {s : Shared} {Q : Value → Shared → Prop} {Post : Value → List (Addr × Obj) → Prop}
    (hret : ∀ v new h' tk', Post v new → (∀ p ∈ new, ∀ q ∈ news, q.1 < p.1) → Fr h₀ L h' m → News h₀ L h' (new ++ news) → 0 < tk' → Q v { s with heap := h', toks := tk' })
    {D : Addr} {o : Obj} {h' : Heap} {tk' : Nat} (F : Fr h₀ L h' m) (N : News h₀ L h' ((D, o) :: news)) (hl : ∀ q ∈ news, q.1 < D) (hp : Post (.ref D) [(D, o)]) (ht : 0 < tk') : Q (.ref D) { s with heap := h', toks := tk' } :=
  hret _ _ h' tk' hp (fun p hp q hq => by rcases List.mem_cons.mp hp with rfl | hp; exact hl q hq; cases hp) F N ht
theorem isTupT_of {p : UInt64 × UInt64 × UInt64} {x y z : UInt64} {t1 t2 t3 : Tok} {D : Addr} (e : p = (x, y, z)) (h1 : 0 < t1) (h2 : 0 < t2) (h3 : 0 < t3) :
    IsTupT p (.ref D) [(D, { cls := .type "tuple", data := .seq #[.float x t1, .float y t2, .float z t3] })] := by
  subst e; exact ⟨D, t1, t2, t3, rfl, rfl, h1, h2, h3⟩
theorem execs_gen {M : Model} {A : Around} {env : Env} {st : Stmt} {rest : List Stmt} {Q : Flow → Shared → Prop} {E : Value → Shared → Prop} {h : Heap} {g : Array GenState} {d : Drawn} {o : OsState} {X : Nat} (hX : 0 < X)
    (k : ∀ tk, 0 < tk → wpAny M A (exec st env) (fun f s' => match f with | .next => wpAny M A (execs rest env) Q E s' | f => Q f s') E ⟨h, g, d, tk, o⟩) : wpAny M A (execs (st :: rest) env) Q E ⟨h, g, d, X, o⟩ := wpAny_execs_cons (k X hX)
theorem execs_gen0 {M : Model} {A : Around} {env : Env} {Q : Flow → Shared → Prop} {E : Value → Shared → Prop} {h : Heap} {g : Array GenState} {d : Drawn} {o : OsState} {X : Nat} (hX : 0 < X)
    (k : ∀ tk, 0 < tk → Q .next ⟨h, g, d, tk, o⟩) : wpAny M A (execs [] env) Q E ⟨h, g, d, X, o⟩ := wpAny_execs_nil (k X hX)
theorem words9 : True := by
  w_top off
  k_with_none
  k_with "execs cons" => (k_here; (refine execs_gen ?_ ?_; (repeat ((fail_if_success (refine (show (_ : Prop) from ?_))); rotate_left 1)); (· (first | exact Nat.succ_pos _ | assumption | (simp only [List.length_cons, List.length_nil]; omega) | omega))); intro tkkx htkkx; (try dsimp only))
  k_with "execs nil" => (k_here; (refine execs_gen0 ?_ ?_; (repeat ((fail_if_success (refine (show (_ : Prop) from ?_))); rotate_left 1)); (· (first | exact Nat.succ_pos _ | assumption | (simp only [List.length_cons, List.length_nil]; omega) | omega))); intro tkkx htkkx; (try dsimp only))
  trivial
theorem hsvT_spec (w : World) (h s v : UInt64) (th ts tv : Tok) (hs : (Float64.cmp s 0 == some Ordering.eq) = false) (hf : Float64.isFinite (Float64.mul h 4618441417868443648) = true) (hi : (hsvI h).natAbs < 1000) (htv : 0 < tv) :
    SpecT w 2 28 [.float h th, .float s ts, .float v tv] (IsTupT (hsvR ((hsvI h).fmod 6) (hsvF h) s v)) := by
  unfold SpecT
  intro loose mean mg mb news dp un gd cn cs a ccd cl outer A₀ base h₀ L m s0 Q E B F X N T hk htk hdp hun hret
  refine wpAny_with_toks (n := 1) htk ?_
  refine wpAny_call ?_
  k_dflt cell_enter
  k_steps
  all_goals first
    | (exfalso; rw [hs] at *; contradiction)
    | (exfalso; exact nan_fin (by assumption) hf)
    | (exfalso; exact inf_fin (by assumption) hf)
    | (exfalso; exact big_fin (by assumption) hi)
    | (refine retT_one hret (by assumption) (by assumption) (by assumption) (isTupT_of ?ee ?h1 ?h2 ?h3) (by first | assumption | omega)
       case h1 => first | assumption | exact Nat.succ_pos _
       case h2 => first | assumption | exact Nat.succ_pos _
       case h3 => first | assumption | exact Nat.succ_pos _
       case ee =>
         (change hsvR ((Flt.toInt Float64.truncOf (Float64.mul h 4618441417868443648)).fmod 6) _ _ _ = _)
         unfold hsvR
         (repeat' split) <;> first | rfl | (exfalso; omega))
    | (exfalso
       have h1 := Int.fmod_nonneg_of_pos (Flt.toInt Float64.truncOf (Float64.mul h 4618441417868443648)) (show (0:Int) < 6 by decide)
       have h2 := Int.fmod_lt_of_pos (Flt.toInt Float64.truncOf (Float64.mul h 4618441417868443648)) (show (0:Int) < 6 by decide)
       rcases six h1 h2 with h | h | h | h | h | h <;> exact absurd h (by assumption))
section
theorem words10 : True := by
  w_top off
  k_with_none
  k_with "execs cons" => (k_here; (refine execs_gen ?_ ?_; (repeat ((fail_if_success (refine (show (_ : Prop) from ?_))); rotate_left 1)); (· (first | exact Nat.succ_pos _ | assumption | (simp only [List.length_cons, List.length_nil]; omega) | omega))); intro tkkx htkkx; (try dsimp only))
  k_with "execs nil" => (k_here; (refine execs_gen0 ?_ ?_; (repeat ((fail_if_success (refine (show (_ : Prop) from ?_))); rotate_left 1)); (· (first | exact Nat.succ_pos _ | assumption | (simp only [List.length_cons, List.length_nil]; omega) | omega))); intro tkkx htkkx; (try dsimp only))
  k_with "call builtin:max" => (k_here; (with_reducible show wpAny _ _ (PySem.call (Value.builtin "max") [Value.float _ _, Value.float _ _, Value.float _ _]) _ _ _); (with_unfolding_all refine' max3T_call ?_ ?_ ?_ ?_ ?_ ?_ ?_ ?_; (repeat ((fail_if_success (refine (show (_ : Prop) from ?_))); rotate_left 1)); (· (rfl)); (· (k_asm)); (· (k_asm)); (· (assumption)); (· (assumption)); (· (assumption)); (· (first | exact Nat.succ_pos _ | assumption)); k_whole; intro tkx hkx tkkx htkx htkkx Fkx Nkx; (try dsimp only); (try k_fold)))
  k_with "call builtin:min" => (k_here; (with_reducible show wpAny _ _ (PySem.call (Value.builtin "min") [Value.float _ _, Value.float _ _, Value.float _ _]) _ _ _); (with_unfolding_all refine' min3T_call ?_ ?_ ?_ ?_ ?_; (repeat ((fail_if_success (refine (show (_ : Prop) from ?_))); rotate_left 1)); (· (rfl)); (· (k_asm)); (· (k_asm)); (· (first | exact Nat.succ_pos _ | assumption)); k_whole; intro tkx hkx tkkx htkkx Fkx Nkx; (try dsimp only); (try k_fold)))
  trivial
theorem rgbT_spec (w : World) (r g b : UInt64) (tr tg tb : Tok) (h1 : (Float64.cmp (min3 r g b) (max3 r g b) == some Ordering.eq) = false) (h2 : Float64.isZero (max3 r g b) = false) (h3 : Float64.isZero (rgbD r g b) = false) (htr : 0 < tr) (htg : 0 < tg) (htb : 0 < tb) :
    SpecT w 2 21 [.float r tr, .float g tg, .float b tb] (IsTupT (rgbR r g b)) := by
  unfold SpecT
  intro loose mean mg mb news dp un gd cn cs a ccd cl outer A₀ base h₀ L m s0 Q E B F X N T hk htk hdp hun hret
  unfold rgbD at h3
  refine wpAny_with_toks (n := 1) htk ?_
  refine wpAny_call ?_
  k_dflt cell_enter
  k_steps
  all_goals first
    | (exfalso; rw [h1] at *; contradiction)
    | (exfalso; rw [h2] at *; contradiction)
    | (exfalso; rw [h3] at *; contradiction)
    | (exfalso; (rename Float64.isZero 4618441417868443648 = true => hz); revert hz; decide +kernel)
    | (exfalso; (rename Float64.isZero 4607182418800017408 = true => hz); revert hz; decide +kernel)
    | (refine retT_one hret (by assumption) (by assumption) (by assumption) (isTupT_of ?ee ?h1 ?h2 ?h3) (by first | assumption | omega)
       case h1 => first | assumption | exact Nat.succ_pos _
       case h2 => first | assumption | exact Nat.succ_pos _
       case h3 => first | assumption | exact Nat.succ_pos _
       case ee =>
         unfold rgbR rgbH
         (repeat' split) <;> first | rfl | (exfalso; simp_all; done))
end
section
theorem words11 : True := by
  w_top off
  k_with_none
  k_with "execs cons" => (k_here; (refine execs_gen ?_ ?_; (repeat ((fail_if_success (refine (show (_ : Prop) from ?_))); rotate_left 1)); (· (first | exact Nat.succ_pos _ | assumption | (simp only [List.length_cons, List.length_nil]; omega) | omega))); intro tkkx htkkx; (try dsimp only))
  k_with "execs nil" => (k_here; (refine execs_gen0 ?_ ?_; (repeat ((fail_if_success (refine (show (_ : Prop) from ?_))); rotate_left 1)); (· (first | exact Nat.succ_pos _ | assumption | (simp only [List.length_cons, List.length_nil]; omega) | omega))); intro tkkx htkkx; (try dsimp only))
  trivial
def toldR (p : UInt64 × UInt64 × UInt64) : UInt64 × UInt64 × UInt64 := rgbR p.1 p.2.1 p.2.2
section
variable {w : World} {d : Nat} {f : Addr} {vs : List Value} {loose : List Str} {mean : ExcName → Option Value} {mg mb : Str → Option Value} {news : List (Addr × Obj)} {dp un : Nat} {gd : Option (List Code)} {cn : Str} {cs : Scope} {a : Addr} {ccd : Value} {cl : List (Str × Addr)} {outer : List Env} {A₀ : Around} {base h₀ : Heap} {L : Addr} {m : Str → Option Value} {s : Shared} {Q E : Value → Shared → Prop}
theorem SpecT.use3 {p : UInt64 × UInt64 × UInt64} (S : SpecT w d f vs (IsTupT p)) (B : Below A₀ base outer h₀) (F : Fr h₀ L s.heap m) (X : (hd.heap_39 w.params).In h₀) (N : News h₀ L s.heap news) (T : Top topProg loose mean mg mb h₀) (hk : cs.kind = .function) (htk : 0 < s.toks)
    (hd : dp + d < recursionLimit) (hu : un + 8 * d + 8 < cLine)
    (h : ∀ D t1 t2 t3 h' tk', 0 < t1 → 0 < t2 → 0 < t3 → 0 < tk' → (∀ q ∈ news, q.1 < D) → Fr h₀ L h' m → News h₀ L h' ((D, { cls := .type "tuple", data := .seq #[.float p.1 t1, .float p.2.1 t2, .float p.2.2 t3] }) :: news) → Q (.ref D) { s with heap := h', toks := tk' }) :
    wpAny (model PG w) (ktrTop dp un gd cn cs L a ccd cl outer) (call (.ref f) vs) Q E s :=
  S _ _ _ _ _ _ _ _ _ _ _ _ _ _ _ _ _ _ _ _ _ _ B F X N T hk htk hd hu fun v new h' tk' hp hl F' N' htk' => by
    obtain ⟨D, t1, t2, t3, rfl, rfl, p1, p2, p3⟩ := hp
    exact h D t1 t2 t3 h' tk' p1 p2 p3 htk' (fun q hq => hl _ (.head _) q hq) F' N'
end
theorem retT_mem {h₀ : Heap} {L : Addr} {m : Str → Option Value} {news : List (Addr × Obj)} {s : Shared} {Q : Value → Shared → Prop} {Post : Value → List (Addr × Obj) → Prop}
    (hret : ∀ v new h' tk', Post v new → (∀ p ∈ new, ∀ q ∈ news, q.1 < p.1) → Fr h₀ L h' m → News h₀ L h' (new ++ news) → 0 < tk' → Q v { s with heap := h', toks := tk' })
    {D : Addr} {o : Obj} {h' : Heap} {tk' : Nat} {led : List (Addr × Obj)} (F : Fr h₀ L h' m) (N : News h₀ L h' led) (hm : (D, o) ∈ led) (hs : ∀ q ∈ news, q ∈ led) (hl : ∀ q ∈ news, q.1 < D) (hp : Post (.ref D) [(D, o)]) (ht : 0 < tk') : Q (.ref D) { s with heap := h', toks := tk' } :=
  retT_one hret F (fun p hp => by rcases List.mem_cons.mp hp with rfl | hp; exact N _ hm; exact N _ (hs _ hp)) hl hp ht
theorem words12 : True := by
  w_top off
  k_with_none
  k_with "execs cons" => (k_here; (refine execs_gen ?_ ?_; (repeat ((fail_if_success (refine (show (_ : Prop) from ?_))); rotate_left 1)); (· (first | exact Nat.succ_pos _ | assumption | (simp only [List.length_cons, List.length_nil]; omega) | omega))); intro tkkx htkkx; (try dsimp only))
  k_with "execs nil" => (k_here; (refine execs_gen0 ?_ ?_; (repeat ((fail_if_success (refine (show (_ : Prop) from ?_))); rotate_left 1)); (· (first | exact Nat.succ_pos _ | assumption | (simp only [List.length_cons, List.length_nil]; omega) | omega))); intro tkkx htkkx; (try dsimp only))
  k_with "call ref" => (k_here; (with_reducible show wpAny _ _ (PySem.call (Value.ref 28) _) _ _ _); (with_unfolding_all refine' SpecT.use3 (hsvT_spec _ _ _ _ _ _ _ ?_ ?_ ?_ ?_) ?_ ?_ ?_ ?_ ?_ ?_ ?_ ?_ ?_ ?_); (repeat ((fail_if_success (refine (show (_ : Prop) from ?_))); rotate_left 1)); (· (assumption)); (· (assumption)); (· (assumption)); (· (first | assumption | exact Nat.succ_pos _)); (· (k_asm)); (· (k_asm)); (· (k_asm)); (· (k_asm)); (· (k_asm)); (· (first | exact rfl | assumption)); (· (first | assumption | exact Nat.succ_pos _)); (· (ktr_room)); (· (ktr_units)); k_whole; intro Dkx t1kx t2kx t3kx hkx tkkx ht1kx ht2kx ht3kx htkkx l1 Fkx Nkx; have l2 := l1; (try k_lt l1); (try dsimp only); (try k_fold))
  k_with "call ref" => (k_here; (with_reducible show wpAny _ _ (PySem.call (Value.ref 21) _) _ _ _); (with_unfolding_all refine' SpecT.use3 (rgbT_spec _ _ _ _ _ _ _ ?_ ?_ ?_ ?_ ?_ ?_) ?_ ?_ ?_ ?_ ?_ ?_ ?_ ?_ ?_ ?_); (repeat ((fail_if_success (refine (show (_ : Prop) from ?_))); rotate_left 1)); (· (assumption)); (· (assumption)); (· (assumption)); (· (first | assumption | exact Nat.succ_pos _)); (· (first | assumption | exact Nat.succ_pos _)); (· (first | assumption | exact Nat.succ_pos _)); (· (k_asm)); (· (k_asm)); (· (k_asm)); (· (k_asm)); (· (k_asm)); (· (first | exact rfl | assumption)); (· (first | assumption | exact Nat.succ_pos _)); (· (ktr_room)); (· (ktr_units)); k_whole; intro Dkx t1kx t2kx t3kx hkx tkkx ht1kx ht2kx ht3kx htkkx l1 Fkx Nkx; have l2 := l1; (try k_lt l1); (try dsimp only); (try k_fold))
  trivial
theorem toldT_spec (w : World) (h s v : UInt64) (th ts tv : Tok) (hs : (Float64.cmp s 0 == some Ordering.eq) = false) (hf : Float64.isFinite (Float64.mul h 4618441417868443648) = true) (hi : (hsvI h).natAbs < 1000) (htv : 0 < tv)
    (p : UInt64 × UInt64 × UInt64) (hp : hsvR ((hsvI h).fmod 6) (hsvF h) s v = p)
    (h1 : (Float64.cmp (min3 p.1 p.2.1 p.2.2) (max3 p.1 p.2.1 p.2.2) == some Ordering.eq) = false) (h2 : Float64.isZero (max3 p.1 p.2.1 p.2.2) = false) (h3 : Float64.isZero (rgbD p.1 p.2.1 p.2.2) = false) :
    SpecT w 4 63 [.float h th, .float s ts, .float v tv] (IsTupT (toldR p)) := by
  subst hp
  unfold SpecT
  intro loose mean mg mb news dp un gd cn cs a ccd cl outer A₀ base h₀ L m s0 Q E B F X N T hk htk hdp hun hret
  refine wpAny_with_toks (n := 1) htk ?_
  refine wpAny_call ?_
  k_dflt cell_enter
  k_steps
  all_goals first
    | (refine retT_mem hret (by assumption) (by assumption) (.head _) (fun q hq => .tail _ (.tail _ hq)) ?_ ⟨_, _, _, _, rfl, rfl, by assumption, by assumption, by assumption⟩ (by first | assumption | omega)
       intro q hq; exact (by assumption : ∀ q : Addr × Obj, q ∈ _ :: news → q.1 < _) q (.tail _ hq))
end
end
section
theorem words13 : True := by
  w_top off
  k_with_none
  trivial
section
open PySem.Float64
theorem V_nat (n : Nat) (h : n < 2 ^ 20) : ∃ t, t < infMag ∧ V t = n * 2 ^ 1065 := by
  by_cases h0 : n = 0
  · subst h0
    exact ⟨0, by decide, by rw [V_zero]; simp⟩
  have key : ∀ j, j < 20 → 2 ^ j ≤ n → n < 2 ^ (j + 1) → ∃ t, t < infMag ∧ V t = n * 2 ^ 1065 := fun j hj h1 h2 => by
    have e1 : (2 : Nat) ^ 52 = 2 ^ j * 2 ^ (52 - j) := by rw [← Nat.pow_add]; congr 1; omega
    have e2 : (2 : Nat) ^ 53 = 2 ^ (j + 1) * 2 ^ (52 - j) := by rw [← Nat.pow_add]; congr 1; omega
    have e3 : (2 : Nat) ^ 1065 = 2 ^ (52 - j) * 2 ^ (1013 + j) := by rw [← Nat.pow_add]; congr 1; omega
    have q1 : n * 2 ^ (52 - j) ≤ 2 ^ 53 := by rw [e2]; exact Nat.mul_le_mul_right _ (Nat.le_of_lt h2)
    have q2 : 2 ^ 52 ≤ n * 2 ^ (52 - j) := by rw [e1]; exact Nat.mul_le_mul_right _ h1
    refine ⟨(1013 + j) * 2 ^ 52 + n * 2 ^ (52 - j), ?_, ?_⟩
    · have hi : infMag = 2047 * 2 ^ 52 := rfl
      rw [hi]
      omega
    · rw [V_at q1 (.inl q2), e3, Nat.mul_assoc]
  have hl : n.log2 < 20 := (Nat.log2_lt h0).mpr h
  exact key n.log2 hl (Nat.log2_self_le h0) Nat.lt_log2_self
theorem V_inj {t t' : Nat} (h : V t = V t') : t = t' := by
  rcases Nat.lt_trichotomy t t' with h1 | h1 | h1
  · have := V_lt h1; omega
  · exact h1
  · have := V_lt h1; omega
theorem dist_same (a : Nat) : dist a a = 0 := by unfold dist; rw [Nat.sub_self]
theorem dist_none {a b : Nat} (h : dist a b = 0) : a = b := by
  unfold dist at h
  exact Nat.le_antisymm (Nat.sub_eq_zero_iff_le.mp (Nat.eq_zero_of_add_eq_zero_right h)) (Nat.sub_eq_zero_iff_le.mp (Nat.eq_zero_of_add_eq_zero_left h))
theorem right_eq {r : UInt64} {neg : Bool} {W D t n : Nat} (R : Right r neg W D) (hD : 0 < D) (hW : W = D * (n * 2 ^ 1065)) (hn : n < 2 ^ 20) (ht : t < infMag) (hV : V t = n * 2 ^ 1065) : r = pack neg t := by
  obtain ⟨t1, rfl, h1, h2, h3⟩ := R
  by_cases hi : t1 = infMag
  · exfalso
    have h4 := h2.mp hi
    rw [hW] at h4
    have h5 : D * ((2 ^ 54 - 1) * 2 ^ 2045) ≤ D * (2 * (n * 2 ^ 1065)) := by
      calc D * ((2 ^ 54 - 1) * 2 ^ 2045) ≤ 2 * (D * (n * 2 ^ 1065)) := h4
        _ = D * (2 * (n * 2 ^ 1065)) := by ac_rfl
    have h6 := Nat.le_of_mul_le_mul_left h5 hD
    have h7 : 2 * (n * 2 ^ 1065) ≤ 2 * (2 ^ 20 * 2 ^ 1065) := Nat.mul_le_mul_left _ (Nat.mul_le_mul_right _ (Nat.le_of_lt hn))
    have h8 : ¬ ((2 ^ 54 - 1) * 2 ^ 2045 : Nat) ≤ 2 * (2 ^ 20 * 2 ^ 1065) := by decide +kernel
    exact h8 (Nat.le_trans h6 h7)
  · have h4 := (h3 (by omega) t).1
    rw [hW, ← hV] at h4
    have h5 : dist (D * V t) (D * V t) = 0 := dist_same _
    rw [h5, dist_mul] at h4
    have h6 : dist (V t) (V t1) = 0 := by
      rcases Nat.mul_eq_zero.mp (Nat.le_zero.mp h4) with h | h
      · exact absurd h (Nat.ne_of_gt hD)
      · exact h
    have h7 : V t = V t1 := dist_none h6
    rw [V_inj h7]
def Ef (n : Int) : UInt64 := qf n 512
theorem qf_pack {a b c : Int} (hb : 0 < b) (h : 512 * a = c * b) (hc : c.natAbs < 2 ^ 20) : ∃ t, t < infMag ∧ V t = c.natAbs * 2 ^ 1065 ∧ qf a b = pack (decide (c < 0)) t := by
  obtain ⟨t, ht, hV⟩ := V_nat c.natAbs hc
  refine ⟨t, ht, hV, ?_⟩
  have hs : (decide (a < 0) != decide (b < 0)) = decide (c < 0) := by
    have hb' : decide (b < 0) = false := decide_eq_false (by omega)
    rw [hb', Bool.bne_false]
    refine decide_eq_decide.mpr ⟨fun h1 => ?_, fun h1 => ?_⟩
    · by_cases h2 : c < 0
      · exact h2
      · have := Int.mul_nonneg (show 0 ≤ c by omega) (Int.le_of_lt hb); omega
    · have := Int.mul_neg_of_neg_of_pos h1 hb; omega
  have hab : 512 * a.natAbs = c.natAbs * b.natAbs := by
    have := congrArg Int.natAbs h
    rw [Int.natAbs_mul, Int.natAbs_mul] at this
    exact this
  unfold qf
  rw [hs]
  refine right_eq (ofFrac_right (D := 1) (W := c.natAbs * 2 ^ 1065) (by omega) ?_ Nat.one_pos) Nat.one_pos (by rw [Nat.one_mul]) hc ht hV
  have e : (2 : Nat) ^ 1074 = 512 * 2 ^ 1065 := by rw [show 1074 = 9 + 1065 from rfl, Nat.pow_add]
  rw [e, Nat.mul_one]
  calc a.natAbs * (512 * 2 ^ 1065) = 512 * a.natAbs * 2 ^ 1065 := by ac_rfl
    _ = c.natAbs * b.natAbs * 2 ^ 1065 := by rw [hab]
    _ = c.natAbs * 2 ^ 1065 * b.natAbs := by ac_rfl
theorem Ef_pack {n : Int} (h : n.natAbs < 2 ^ 20) : ∃ t, t < infMag ∧ V t = n.natAbs * 2 ^ 1065 ∧ Ef n = pack (decide (n < 0)) t := qf_pack (by decide) (by omega) h
theorem qf_Ef {a b c : Int} (hb : 0 < b) (h : 512 * a = c * b) (hc : c.natAbs < 2 ^ 20) : qf a b = Ef c := by
  obtain ⟨t, _, h1, h2⟩ := qf_pack hb h hc
  obtain ⟨t', _, h1', h2'⟩ := Ef_pack hc
  rw [h2, h2', V_inj (h1.trans h1'.symm)]
theorem Ef_of {r : UInt64} {neg : Bool} {W D : Nat} {n : Int} (R : Right r neg W D) (hD : 0 < D) (hn : n.natAbs < 2 ^ 20) (hW : W = D * (n.natAbs * 2 ^ 1065)) (hs : neg = decide (n < 0)) : r = Ef n := by
  obtain ⟨t, ht, hV, e⟩ := Ef_pack hn
  rw [e, ← hs]
  exact right_eq R hD hW hn ht hV
theorem Ef_dec {n : Int} (h : n.natAbs < 2 ^ 20) : ∃ m e, decode (Ef n) = .fin (decide (n < 0)) m e ∧ val (Ef n) = n * 2 ^ 1065 ∧ m * 2 ^ (e + 1074).toNat = n.natAbs * 2 ^ 1065 := by
  obtain ⟨t, ht, hV, e⟩ := Ef_pack h
  obtain ⟨m, k, hd, hv⟩ := decode_pack (decide (n < 0)) ht
  refine ⟨m, k, by rw [e]; exact hd, ?_, by rw [hv, hV]⟩
  rw [e, val_pack _ ht, hV]
  unfold sgn
  have hp : ((n.natAbs * 2 ^ 1065 : Nat) : Int) = (n.natAbs : Int) * 2 ^ 1065 := by simp
  rw [hp]
  by_cases hn : n < 0
  · rw [if_pos (by simpa using hn), ← Int.neg_mul, Int.ofNat_natAbs_of_nonpos (by omega), Int.neg_neg]
  · rw [if_neg (by simpa using hn), Int.natAbs_of_nonneg (by omega)]
theorem Ef_zero : zero false = Ef 0 := by decide +kernel
theorem pow_pos' : (0 : Int) < 2 ^ 1065 := by decide +kernel
theorem Ef_sum {r : UInt64} {z : Bool} {n : Int} {v : Int} (hv : v = n * 2 ^ 1065) (h : (v = 0 → r = zero z) ∧ (v ≠ 0 → Right r (decide (v < 0)) v.natAbs 1)) (hz : n = 0 → z = false) (hn : n.natAbs < 2 ^ 20) : r = Ef n := by
  by_cases h0 : n = 0
  · subst h0
    rw [h.1 (by rw [hv]; exact Int.zero_mul _), hz rfl, Ef_zero]
  · have hne : v ≠ 0 := by rw [hv]; exact Int.mul_ne_zero h0 (Int.ne_of_gt pow_pos')
    refine Ef_of (h.2 hne) Nat.one_pos hn ?_ ?_
    · rw [hv, Int.natAbs_mul, Nat.one_mul]; rfl
    · refine decide_eq_decide.mpr ⟨fun h1 => ?_, fun h1 => ?_⟩
      · by_cases h2 : n < 0
        · exact h2
        · have := Int.mul_nonneg (show 0 ≤ n by omega) (Int.le_of_lt pow_pos'); omega
      · rw [hv]; exact Int.mul_neg_of_neg_of_pos h1 pow_pos'
theorem Ef_add {a b : Int} (ha : a.natAbs < 2 ^ 19) (hb : b.natAbs < 2 ^ 19) : add (Ef a) (Ef b) = Ef (a + b) := by
  obtain ⟨m, e, hd, hv, _⟩ := Ef_dec (n := a) (by omega)
  obtain ⟨m', e', hd', hv', _⟩ := Ef_dec (n := b) (by omega)
  refine Ef_sum (v := val (Ef a) + val (Ef b)) (by rw [hv, hv', Int.add_mul]) (add_right hd hd') (fun h => ?_) (by omega)
  by_cases h1 : a < 0
  · have : ¬ b < 0 := by omega
    simp [this]
  · simp [h1]
theorem Ef_sub {a b : Int} (ha : a.natAbs < 2 ^ 19) (hb : b.natAbs < 2 ^ 19) : Float64.sub (Ef a) (Ef b) = Ef (a - b) := by
  obtain ⟨m, e, hd, hv, _⟩ := Ef_dec (n := a) (by omega)
  obtain ⟨m', e', hd', hv', _⟩ := Ef_dec (n := b) (by omega)
  refine Ef_sum (v := val (Ef a) - val (Ef b)) (by rw [hv, hv', Int.sub_mul]) (sub_right hd hd') (fun h => ?_) (by omega)
  have : a = b := by omega
  subst this
  by_cases h1 : a < 0 <;> simp [h1]
theorem Ef_mul {a b c : Int} (ha : 0 ≤ a ∧ a < 2 ^ 20) (hb : 0 ≤ b ∧ b < 2 ^ 20) (hc : c.natAbs < 2 ^ 20) (h : 512 * c = a * b) : mul (Ef a) (Ef b) = Ef c := by
  obtain ⟨m, e, hd, hv, _⟩ := Ef_dec (n := a) (by omega)
  obtain ⟨m', e', hd', hv', _⟩ := Ef_dec (n := b) (by omega)
  refine Ef_of (mul_right hd hd') (Nat.two_pow_pos _) hc ?_ ?_
  · rw [hv, hv', Int.natAbs_mul, Int.natAbs_mul]
    have h2 : 512 * c.natAbs = a.natAbs * b.natAbs := by
      have := congrArg Int.natAbs h
      rw [Int.natAbs_mul, Int.natAbs_mul] at this
      exact this
    have e1 : (2 : Nat) ^ 1074 = 512 * 2 ^ 1065 := by rw [show 1074 = 9 + 1065 from rfl, Nat.pow_add]
    have e2 : (2 ^ 1065 : Int).natAbs = 2 ^ 1065 := rfl
    rw [e1, e2]
    generalize (2 : Nat) ^ 1065 = K
    calc a.natAbs * K * (b.natAbs * K) = a.natAbs * b.natAbs * (K * K) := by ac_rfl
      _ = 512 * c.natAbs * (K * K) := by rw [h2]
      _ = 512 * K * (c.natAbs * K) := by ac_rfl
  · have h1 : ¬ a < 0 := by omega
    have h2 : ¬ b < 0 := by omega
    have h3 : ¬ c < 0 := by have := Int.mul_nonneg ha.1 hb.1; omega
    simp [h1, h2, h3]
theorem Ef_div {a b c : Int} (ha : a.natAbs < 2 ^ 20) (hb : 0 < b ∧ b < 2 ^ 20) (hc : c.natAbs < 2 ^ 20) (h : 512 * a = c * b) : div (Ef a) (Ef b) = Ef c := by
  obtain ⟨m, e, hd, hv, _⟩ := Ef_dec (n := a) ha
  obtain ⟨m', e', hd', hv', hm'⟩ := Ef_dec (n := b) (by omega)
  have hk : m' ≠ 0 := fun h0 => by
    rw [h0, Nat.zero_mul] at hm'
    have := Nat.mul_pos (show 0 < b.natAbs by omega) (Nat.two_pow_pos 1065)
    omega
  refine Ef_of (div_right hd hd' hk) ?_ hc ?_ ?_
  · rw [hv', Int.natAbs_mul]
    exact Nat.mul_pos (by omega) (by decide +kernel)
  · rw [hv, hv', Int.natAbs_mul, Int.natAbs_mul]
    have h2 : 512 * a.natAbs = c.natAbs * b.natAbs := by
      have := congrArg Int.natAbs h
      rw [Int.natAbs_mul, Int.natAbs_mul] at this
      exact this
    have e1 : (2 : Nat) ^ 1074 = 512 * 2 ^ 1065 := by rw [show 1074 = 9 + 1065 from rfl, Nat.pow_add]
    have e2 : (2 ^ 1065 : Int).natAbs = 2 ^ 1065 := rfl
    rw [e1, e2]
    generalize (2 : Nat) ^ 1065 = K
    calc a.natAbs * K * (512 * K) = 512 * a.natAbs * (K * K) := by ac_rfl
      _ = c.natAbs * b.natAbs * (K * K) := by rw [h2]
      _ = b.natAbs * K * (c.natAbs * K) := by ac_rfl
  · have h2 : decide (b < 0) = false := decide_eq_false (by omega)
    rw [h2, Bool.bne_false]
    refine decide_eq_decide.mpr ⟨fun h1 => ?_, fun h1 => ?_⟩
    · by_cases h3 : c < 0
      · exact h3
      · have := Int.mul_nonneg (show 0 ≤ c by omega) (Int.le_of_lt hb.1); omega
    · have := Int.mul_neg_of_neg_of_pos h1 hb.1; omega
theorem Ef_cmp {a b : Int} (ha : a.natAbs < 2 ^ 20) (hb : b.natAbs < 2 ^ 20) : cmp (Ef a) (Ef b) = some (compare a b) := by
  obtain ⟨m, e, hd, hv, _⟩ := Ef_dec ha
  obtain ⟨m', e', hd', hv', _⟩ := Ef_dec hb
  rw [cmp_right hd hd', hv, hv']
  congr 1
  rcases Int.lt_trichotomy a b with h | h | h
  · rw [Int.compare_eq_lt.mpr h, Int.compare_eq_lt.mpr (Int.mul_lt_mul_of_pos_right h pow_pos')]
  · subst h; simp
  · rw [Int.compare_eq_gt.mpr h, Int.compare_eq_gt.mpr (Int.mul_lt_mul_of_pos_right h pow_pos')]
theorem Ef_isZero {a : Int} (ha : a.natAbs < 2 ^ 20) (h : a ≠ 0) : isZero (Ef a) = false := by
  obtain ⟨m, e, hd, hv, hm⟩ := Ef_dec ha
  unfold isZero
  rw [hd]
  match m with
  | 0 =>
    rw [Nat.zero_mul] at hm
    have := Nat.mul_pos (show 0 < a.natAbs by omega) (Nat.two_pow_pos 1065)
    omega
  | m + 1 => rfl
theorem Ef_fin {a : Int} (ha : a.natAbs < 2 ^ 20) : isFinite (Ef a) = true := by
  obtain ⟨m, e, hd, hv, hm⟩ := Ef_dec ha
  unfold isFinite
  rw [hd]
theorem Ef_ofInt {i : Int} (h : i.natAbs < 2 ^ 11) : ofInt i = Ef (512 * i) := by
  refine Ef_of (ofInt_right i) Nat.one_pos (by omega) ?_ (decide_eq_decide.mpr (by omega))
  have e1 : (2 : Nat) ^ 1074 = 512 * 2 ^ 1065 := by rw [show 1074 = 9 + 1065 from rfl, Nat.pow_add]
  rw [e1, Int.natAbs_mul]
  generalize (2 : Nat) ^ 1065 = K
  have : (512 : Int).natAbs = 512 := rfl
  rw [this]
  calc i.natAbs * (512 * K) = 1 * (512 * i.natAbs * K) := by rw [Nat.one_mul]; ac_rfl
theorem Ef_trunc {a : Int} (h : 0 ≤ a ∧ a < 2 ^ 20) : Flt.toInt truncOf (Ef a) = a / 512 := by
  obtain ⟨m, e, hd, hv, hm⟩ := Ef_dec (n := a) (by omega)
  have hn : decide (a < 0) = false := decide_eq_false (by omega)
  rw [hn] at hd
  have he := decode_ge hd
  unfold Flt.toInt
  rw [hd]
  show (if e ≥ 0 then (m : Int) * 2 ^ e.toNat else (m : Int).fdiv (2 ^ (-e).toNat)) = a / 512
  have hna : ((a.natAbs : Nat) : Int) = a := Int.natAbs_of_nonneg h.1
  have e1 : (2 : Nat) ^ 1074 = 512 * 2 ^ 1065 := by rw [show 1074 = 9 + 1065 from rfl, Nat.pow_add]
  by_cases h1 : e ≥ 0
  · rw [if_pos h1]
    have e2 : (e + 1074).toNat = e.toNat + 1074 := by omega
    rw [e2, Nat.pow_add, e1] at hm
    have h3 : m * 2 ^ e.toNat * 512 = a.natAbs := by
      refine Nat.eq_of_mul_eq_mul_right (Nat.two_pow_pos 1065) ?_
      rw [← hm]
      generalize (2 : Nat) ^ 1065 = K
      ac_rfl
    have h4 : ((m : Int) * 2 ^ e.toNat) * 512 = a := by
      rw [← hna, ← h3]; push_cast; rfl
    omega
  · rw [if_neg h1]
    have e2 : (2 : Nat) ^ 1074 = 2 ^ (e + 1074).toNat * 2 ^ (-e).toNat := by rw [← Nat.pow_add]; congr 1; omega
    have h3 : m * 512 = a.natAbs * 2 ^ (-e).toNat := by
      refine Nat.eq_of_mul_eq_mul_right (Nat.two_pow_pos 1065) ?_
      calc m * 512 * 2 ^ 1065 = m * 2 ^ 1074 := by rw [e1]; ac_rfl
        _ = m * 2 ^ (e + 1074).toNat * 2 ^ (-e).toNat := by rw [e2]; ac_rfl
        _ = a.natAbs * 2 ^ (-e).toNat * 2 ^ 1065 := by rw [hm]; ac_rfl
    have h4 : (m : Int).fdiv (2 ^ (-e).toNat) = ((m / 2 ^ (-e).toNat : Nat) : Int) := by
      rw [Int.fdiv_eq_ediv_of_nonneg _ (Int.le_of_lt (Int.pow_pos (by decide)))]; push_cast; rfl
    rw [h4]
    have h5 : m / 2 ^ (-e).toNat = a.natAbs / 512 := by
      calc m / 2 ^ (-e).toNat = m * 512 / (2 ^ (-e).toNat * 512) := (Nat.mul_div_mul_right _ _ (by decide)).symm
        _ = a.natAbs * 2 ^ (-e).toNat / (512 * 2 ^ (-e).toNat) := by rw [h3, Nat.mul_comm 512]
        _ = a.natAbs / 512 := Nat.mul_div_mul_right _ _ (Nat.two_pow_pos _)
    rw [h5]; omega
end
section
theorem Ef_one : (4607182418800017408 : UInt64) = Ef 512 := by decide +kernel
theorem Ef_two : (4611686018427387904 : UInt64) = Ef 1024 := by decide +kernel
theorem Ef_four : (4616189618054758400 : UInt64) = Ef 2048 := by decide +kernel
theorem Ef_six : (4618441417868443648 : UInt64) = Ef 3072 := by decide +kernel
theorem Ef_0 : (0 : UInt64) = Ef 0 := by decide +kernel
theorem cmp_gt {a b : Int} : (some (compare a b) == some Ordering.gt) = decide (a > b) := by
  rcases Int.lt_trichotomy a b with h | h | h
  · rw [Int.compare_eq_lt.mpr h, decide_eq_false (by omega)]; rfl
  · subst h; simp
  · rw [Int.compare_eq_gt.mpr h, decide_eq_true h]; rfl
theorem cmp_lt {a b : Int} : (some (compare a b) == some Ordering.lt) = decide (a < b) := by
  rcases Int.lt_trichotomy a b with h | h | h
  · rw [Int.compare_eq_lt.mpr h, decide_eq_true h]; rfl
  · subst h; simp
  · rw [Int.compare_eq_gt.mpr h, decide_eq_false (by omega)]; rfl
theorem cmp_eq {a b : Int} : (some (compare a b) == some Ordering.eq) = decide (a = b) := by
  rcases Int.lt_trichotomy a b with h | h | h
  · rw [Int.compare_eq_lt.mpr h, decide_eq_false (by omega)]; rfl
  · subst h; simp
  · rw [Int.compare_eq_gt.mpr h, decide_eq_false (by omega)]; rfl
def Sm (a : Int) : Prop := 0 ≤ a ∧ a < 4096
theorem Sm.abs {a : Int} (h : Sm a) : a.natAbs < 2 ^ 20 := by unfold Sm at h; omega
theorem Ef_gt {a b : Int} (ha : Sm a) (hb : Sm b) : gtF (Ef a) (Ef b) = decide (a > b) := by unfold gtF; rw [Ef_cmp ha.abs hb.abs, cmp_gt]
theorem Ef_lt {a b : Int} (ha : Sm a) (hb : Sm b) : ltF (Ef a) (Ef b) = decide (a < b) := by unfold ltF; rw [Ef_cmp ha.abs hb.abs, cmp_lt]
theorem Ef_eq {a b : Int} (ha : Sm a) (hb : Sm b) : (Float64.cmp (Ef a) (Ef b) == some Ordering.eq) = decide (a = b) := by rw [Ef_cmp ha.abs hb.abs, cmp_eq]
theorem Ef_max3 {a b c m : Int} (ha : Sm a) (hb : Sm b) (hc : Sm c) (h1 : a ≤ m) (h2 : b ≤ m) (h3 : c ≤ m) (h : m = a ∨ m = b ∨ m = c) : max3 (Ef a) (Ef b) (Ef c) = Ef m := by
  unfold max3
  rw [Ef_gt hb ha, Ef_gt hc hb, Ef_gt hc ha]
  simp only [decide_eq_true_eq]
  split <;> split <;> (congr 1; omega)
theorem Ef_min3 {a b c m : Int} (ha : Sm a) (hb : Sm b) (hc : Sm c) (h1 : m ≤ a) (h2 : m ≤ b) (h3 : m ≤ c) (h : m = a ∨ m = b ∨ m = c) : min3 (Ef a) (Ef b) (Ef c) = Ef m := by
  unfold min3
  rw [Ef_lt hb ha, Ef_lt hc hb, Ef_lt hc ha]
  simp only [decide_eq_true_eq]
  split <;> split <;> (congr 1; omega)
theorem rgbC_Ef {r g b x mx mn c : Int} (hM : max3 (Ef r) (Ef g) (Ef b) = Ef mx) (hm : min3 (Ef r) (Ef g) (Ef b) = Ef mn) (hx : Sm x) (hmx : Sm mx) (hmn : Sm mn) (hD : mn < mx) (hc : Sm c) (h : 512 * (mx - x) = c * (mx - mn)) : rgbC (Ef r) (Ef g) (Ef b) (Ef x) = Ef c := by
  unfold Sm at *
  unfold rgbC rgbD
  rw [hM, hm, Ef_sub (by omega) (by omega), Ef_sub (by omega) (by omega)]
  exact Ef_div (by omega) (by omega) (by omega) h
theorem divmod_Ef : ∀ q ∈ List.range 64, (Float64.divmod (Ef (8 * (q : Nat))) (Ef 512)).snd = Ef (8 * (q : Nat)) := by decide +kernel
theorem divmod_Ef' : ∀ q ∈ List.range 10, (Float64.divmod (Ef (8 * ((q : Nat) : Int) - 80)) (Ef 512)).snd = Ef (8 * ((q : Nat) : Int) + 432) := by decide +kernel
theorem divmod_at {q q' : Int} (h : 0 ≤ q ∧ q < 64) (hq : q' = q ∨ (54 ≤ q ∧ q' = q - 64)) : (Float64.divmod (Ef (8 * q')) (Ef 512)).snd = Ef (8 * q) := by
  rcases hq with rfl | ⟨h1, rfl⟩
  · have := divmod_Ef q'.toNat (List.mem_range.mpr (by omega))
    rwa [Int.toNat_of_nonneg h.1] at this
  · have := divmod_Ef' (q - 54).toNat (List.mem_range.mpr (by omega))
    rw [Int.toNat_of_nonneg (by omega)] at this
    rw [show 8 * (q - 64) = 8 * (q - 54) - 80 by omega, this]
    congr 1; omega
theorem rgbR_Ef {r g b mx mn cr cg cb S q q' : Int} (hr : Sm r) (hg : Sm g) (hb : Sm b) (hmx : Sm mx) (hmn : Sm mn) (hD : mn < mx)
    (m1 : r ≤ mx) (m2 : g ≤ mx) (m3 : b ≤ mx) (m4 : mx = r ∨ mx = g ∨ mx = b) (n1 : mn ≤ r) (n2 : mn ≤ g) (n3 : mn ≤ b) (n4 : mn = r ∨ mn = g ∨ mn = b)
    (hcr : Sm cr) (hcg : Sm cg) (hcb : Sm cb) (er : 512 * (mx - r) = cr * (mx - mn)) (eg : 512 * (mx - g) = cg * (mx - mn)) (eb : 512 * (mx - b) = cb * (mx - mn))
    (hS : Sm S) (eS : 512 * (mx - mn) = S * mx) (hq : 0 ≤ q ∧ q < 64) (hq' : q' = q ∨ (54 ≤ q ∧ q' = q - 64))
    (hH1 : r = mx → cb - cg = 48 * q') (hH2 : r ≠ mx → g = mx → 1024 + cr - cb = 48 * q') (hH3 : r ≠ mx → g ≠ mx → 2048 + cg - cr = 48 * q')
    (x1 : mx.natAbs < 2 ^ 19) (x2 : mn.natAbs < 2 ^ 19) (x3 : cr.natAbs < 2 ^ 19) (x4 : cg.natAbs < 2 ^ 19) (x5 : cb.natAbs < 2 ^ 19) (x6 : (1024 + cr).natAbs < 2 ^ 19) (x7 : (2048 + cg).natAbs < 2 ^ 19) (x8 : (48 * q').natAbs < 2 ^ 20) (x9 : (8 * q').natAbs < 2 ^ 20) (x10 : 512 * (48 * q') = 8 * q' * 3072) (x11 : (mx - mn).natAbs < 2 ^ 20) (x12 : 0 < mx ∧ mx < 2 ^ 20) (x13 : mn ≠ mx) (x14 : mx ≠ 0) (x15 : mx - mn ≠ 0) :
    rgbR (Ef r) (Ef g) (Ef b) = (Ef (8 * q), Ef S, Ef mx) ∧ (Float64.cmp (min3 (Ef r) (Ef g) (Ef b)) (max3 (Ef r) (Ef g) (Ef b)) == some Ordering.eq) = false ∧ Float64.isZero (max3 (Ef r) (Ef g) (Ef b)) = false ∧ Float64.isZero (rgbD (Ef r) (Ef g) (Ef b)) = false := by
  have hM := Ef_max3 hr hg hb m1 m2 m3 m4
  have hm := Ef_min3 hr hg hb n1 n2 n3 n4
  have hDD : rgbD (Ef r) (Ef g) (Ef b) = Ef (mx - mn) := by unfold rgbD; rw [hM, hm, Ef_sub x1 x2]
  have c1 := rgbC_Ef hM hm hr hmx hmn hD hcr er
  have c2 := rgbC_Ef hM hm hg hmx hmn hD hcg eg
  have c3 := rgbC_Ef hM hm hb hmx hmn hD hcb eb
  have hH : rgbH (Ef r) (Ef g) (Ef b) = Ef (48 * q') := by
    unfold rgbH
    rw [hM, Ef_eq hr hmx, Ef_eq hg hmx, c1, c2, c3, Ef_two, Ef_four]
    by_cases h1 : r = mx
    · rw [if_pos (decide_eq_true h1), Ef_sub x5 x4, hH1 h1]
    · rw [if_neg (fun h => h1 (of_decide_eq_true h))]
      by_cases h2 : g = mx
      · rw [if_pos (decide_eq_true h2), Ef_add (by decide) x3, Ef_sub x6 x5, hH2 h1 h2]
      · rw [if_neg (fun h => h2 (of_decide_eq_true h)), Ef_add (by decide) x4, Ef_sub x7 x3, hH3 h1 h2]
  refine ⟨?_, ?_, ?_, ?_⟩
  · unfold rgbR
    rw [hH, hDD, hM, Ef_six, Ef_one, Ef_div (c := 8 * q') x8 ⟨by decide, by decide⟩ x9 x10, divmod_at hq hq', Ef_div (c := S) x11 x12 hS.abs eS]
  · rw [hM, hm, Ef_eq hmn hmx]; exact decide_eq_false x13
  · rw [hM]; exact Ef_isZero hmx.abs x14
  · rw [hDD]; exact Ef_isZero x11 x15
end
section
theorem pos_mem {a : Int} (h : 1 ≤ a ∧ a ≤ 4) : ∃ n : Nat, a = n + 1 ∧ n ∈ List.range 4 := by
  obtain ⟨n, e⟩ := Int.eq_ofNat_of_zero_le (Int.sub_nonneg_of_le h.1)
  have e2 : a = (n : Int) + 1 := by rw [← e, Int.sub_add_cancel]
  exact ⟨n, e2, List.mem_range.mpr (Int.ofNat_lt.mp (show (n : Int) + 1 ≤ 4 by rw [← e2]; exact h.2))⟩
theorem nat_mem {f : Int} {m : Nat} (h0 : 0 ≤ f) (h : f < m) : ∃ n : Nat, f = n ∧ n ∈ List.range m := by
  obtain ⟨n, e⟩ := Int.eq_ofNat_of_zero_le h0
  exact ⟨n, e, List.mem_range.mpr (Int.ofNat_lt.mp (e ▸ h))⟩
def tabP : Bool := (List.range 4).all fun x => (List.range 4).all fun y =>
  decide ((128 * ((x : Int) + 1)).natAbs < 2 ^ 19 ∧ (0 ≤ 128 * ((y : Int) + 1) ∧ 128 * ((y : Int) + 1) < 2 ^ 20) ∧ (0 ≤ 512 - 128 * ((x : Int) + 1) ∧ 512 - 128 * ((x : Int) + 1) < 2 ^ 20) ∧ (32 * ((y : Int) + 1) * (4 - ((x : Int) + 1))).natAbs < 2 ^ 20 ∧ 512 * (32 * ((y : Int) + 1) * (4 - ((x : Int) + 1))) = 128 * ((y : Int) + 1) * (512 - 128 * ((x : Int) + 1)))
theorem tabP_ok : tabP = true := by decide +kernel
theorem hsvP_Ef {a b : Int} (ha : 1 ≤ a ∧ a ≤ 4) (hb : 1 ≤ b ∧ b ≤ 4) : hsvP (Ef (128 * a)) (Ef (128 * b)) = Ef (32 * b * (4 - a)) := by
  obtain ⟨x, rfl, mx⟩ := pos_mem ha
  obtain ⟨y, rfl, my⟩ := pos_mem hb
  have h := of_decide_eq_true (List.all_eq_true.mp (List.all_eq_true.mp tabP_ok x mx) y my)
  unfold hsvP
  rw [Ef_one, Ef_sub (by decide) h.1]
  exact Ef_mul h.2.1 h.2.2.1 h.2.2.2.1 h.2.2.2.2
def tabQ : Bool := (List.range 4).all fun x => (List.range 4).all fun y => (List.range 33).all fun z =>
  decide ((0 ≤ 128 * ((x : Int) + 1) ∧ 128 * ((x : Int) + 1) < 2 ^ 20) ∧ (0 ≤ 16 * (z : Int) ∧ 16 * (z : Int) < 2 ^ 20) ∧ (4 * (((x : Int) + 1) * z)).natAbs < 2 ^ 20 ∧ 512 * (4 * (((x : Int) + 1) * z)) = 128 * ((x : Int) + 1) * (16 * z) ∧ (4 * (((x : Int) + 1) * z)).natAbs < 2 ^ 19 ∧ (0 ≤ 128 * ((y : Int) + 1) ∧ 128 * ((y : Int) + 1) < 2 ^ 20) ∧ (0 ≤ 512 - 4 * (((x : Int) + 1) * z) ∧ 512 - 4 * (((x : Int) + 1) * z) < 2 ^ 20) ∧ (((y : Int) + 1) * (128 - ((x : Int) + 1) * z)).natAbs < 2 ^ 20 ∧ 512 * (((y : Int) + 1) * (128 - ((x : Int) + 1) * z)) = 128 * ((y : Int) + 1) * (512 - 4 * (((x : Int) + 1) * z)))
theorem tabQ_ok : tabQ = true := by decide +kernel
theorem hsvQ_Ef {a b f : Int} (ha : 1 ≤ a ∧ a ≤ 4) (hb : 1 ≤ b ∧ b ≤ 4) (hf : 0 ≤ f ∧ f ≤ 32) : hsvQ (Ef (128 * a)) (Ef (128 * b)) (Ef (16 * f)) = Ef (b * (128 - a * f)) := by
  obtain ⟨x, rfl, mx⟩ := pos_mem ha
  obtain ⟨y, rfl, my⟩ := pos_mem hb
  obtain ⟨z, rfl, mz⟩ := nat_mem (m := 33) hf.1 (Int.lt_of_le_of_lt hf.2 (by decide))
  have h := of_decide_eq_true (List.all_eq_true.mp (List.all_eq_true.mp (List.all_eq_true.mp tabQ_ok x mx) y my) z mz)
  unfold hsvQ
  rw [Ef_mul h.1 h.2.1 h.2.2.1 h.2.2.2.1, Ef_one, Ef_sub (by decide) h.2.2.2.2.1]
  exact Ef_mul h.2.2.2.2.2.1 h.2.2.2.2.2.2.1 h.2.2.2.2.2.2.2.1 h.2.2.2.2.2.2.2.2
theorem hsvT_Ef {a b f : Int} (ha : 1 ≤ a ∧ a ≤ 4) (hb : 1 ≤ b ∧ b ≤ 4) (hf : 0 ≤ f ∧ f ≤ 32) : hsvT (Ef (128 * a)) (Ef (128 * b)) (Ef (16 * f)) = Ef (b * (128 - a * (32 - f))) := by
  unfold hsvT
  rw [Ef_one, Ef_sub (by omega) (by omega), ← Ef_one, show 512 - 16 * f = 16 * (32 - f) by omega]
  exact hsvQ_Ef ha hb (by omega)
def sidesA (r g b mx mn cr cg cb S q q' : Int) : Bool :=
  decide ((0 ≤ r ∧ r < 4096) ∧ (0 ≤ g ∧ g < 4096) ∧ (0 ≤ b ∧ b < 4096) ∧ (0 ≤ mx ∧ mx < 4096) ∧ (0 ≤ mn ∧ mn < 4096) ∧ (mn < mx) ∧ (r ≤ mx) ∧ (g ≤ mx) ∧ (b ≤ mx) ∧ (mx = r ∨ mx = g ∨ mx = b) ∧ (mn ≤ r) ∧ (mn ≤ g) ∧ (mn ≤ b) ∧ (mn = r ∨ mn = g ∨ mn = b))
def sidesB (r g b mx mn cr cg cb S q q' : Int) : Bool :=
  decide ((0 ≤ cr ∧ cr < 4096) ∧ (0 ≤ cg ∧ cg < 4096) ∧ (0 ≤ cb ∧ cb < 4096) ∧ (512 * (mx - r) = cr * (mx - mn)) ∧ (512 * (mx - g) = cg * (mx - mn)) ∧ (512 * (mx - b) = cb * (mx - mn)) ∧ (0 ≤ S ∧ S < 4096) ∧ (512 * (mx - mn) = S * mx) ∧ (0 ≤ q ∧ q < 64) ∧ (q' = q ∨ (54 ≤ q ∧ q' = q - 64)) ∧ (r = mx → cb - cg = 48 * q') ∧ (r ≠ mx → g = mx → 1024 + cr - cb = 48 * q') ∧ (r ≠ mx → g ≠ mx → 2048 + cg - cr = 48 * q'))
def sidesC (r g b mx mn cr cg cb S q q' : Int) : Bool :=
  decide ((mx.natAbs < 2 ^ 19) ∧ (mn.natAbs < 2 ^ 19) ∧ (cr.natAbs < 2 ^ 19) ∧ (cg.natAbs < 2 ^ 19) ∧ (cb.natAbs < 2 ^ 19) ∧ ((1024 + cr).natAbs < 2 ^ 19) ∧ ((2048 + cg).natAbs < 2 ^ 19) ∧ ((48 * q').natAbs < 2 ^ 20) ∧ ((8 * q').natAbs < 2 ^ 20) ∧ (512 * (48 * q') = 8 * q' * 3072) ∧ ((mx - mn).natAbs < 2 ^ 20) ∧ (0 < mx ∧ mx < 2 ^ 20) ∧ (mn ≠ mx) ∧ (mx ≠ 0) ∧ (mx - mn ≠ 0))
def sidesOk (r g b mx mn cr cg cb S q q' : Int) : Bool := sidesA r g b mx mn cr cg cb S q q' && (sidesB r g b mx mn cr cg cb S q q' && sidesC r g b mx mn cr cg cb S q q')
theorem rgbR_of {r g b mx mn cr cg cb S q q' : Int} (h9 : sidesOk r g b mx mn cr cg cb S q q' = true) :
    rgbR (Ef r) (Ef g) (Ef b) = (Ef (8 * q), Ef S, Ef mx) ∧ (Float64.cmp (min3 (Ef r) (Ef g) (Ef b)) (max3 (Ef r) (Ef g) (Ef b)) == some Ordering.eq) = false ∧ Float64.isZero (max3 (Ef r) (Ef g) (Ef b)) = false ∧ Float64.isZero (rgbD (Ef r) (Ef g) (Ef b)) = false := by
  have h := (Bool.and_eq_true _ _).mp h9
  have hA := of_decide_eq_true h.1
  have hB := of_decide_eq_true ((Bool.and_eq_true _ _).mp h.2).1
  have hC := of_decide_eq_true ((Bool.and_eq_true _ _).mp h.2).2
  exact rgbR_Ef hA.1 hA.2.1 hA.2.2.1 hA.2.2.2.1 hA.2.2.2.2.1 hA.2.2.2.2.2.1 hA.2.2.2.2.2.2.1 hA.2.2.2.2.2.2.2.1 hA.2.2.2.2.2.2.2.2.1 hA.2.2.2.2.2.2.2.2.2.1 hA.2.2.2.2.2.2.2.2.2.2.1 hA.2.2.2.2.2.2.2.2.2.2.2.1 hA.2.2.2.2.2.2.2.2.2.2.2.2.1 hA.2.2.2.2.2.2.2.2.2.2.2.2.2 hB.1 hB.2.1 hB.2.2.1 hB.2.2.2.1 hB.2.2.2.2.1 hB.2.2.2.2.2.1 hB.2.2.2.2.2.2.1 hB.2.2.2.2.2.2.2.1 hB.2.2.2.2.2.2.2.2.1 hB.2.2.2.2.2.2.2.2.2.1 hB.2.2.2.2.2.2.2.2.2.2.1 hB.2.2.2.2.2.2.2.2.2.2.2.1 hB.2.2.2.2.2.2.2.2.2.2.2.2 hC.1 hC.2.1 hC.2.2.1 hC.2.2.2.1 hC.2.2.2.2.1 hC.2.2.2.2.2.1 hC.2.2.2.2.2.2.1 hC.2.2.2.2.2.2.2.1 hC.2.2.2.2.2.2.2.2.1 hC.2.2.2.2.2.2.2.2.2.1 hC.2.2.2.2.2.2.2.2.2.2.1 hC.2.2.2.2.2.2.2.2.2.2.2.1 hC.2.2.2.2.2.2.2.2.2.2.2.2.1 hC.2.2.2.2.2.2.2.2.2.2.2.2.2.1 hC.2.2.2.2.2.2.2.2.2.2.2.2.2.2
def tabV (R G B : Int → Int → Int → Int) (CR CG CB : Int → Int) (j d : Int) : Bool :=
  (List.range 4).all fun a => (List.range 4).all fun b => (List.range 32).all fun f =>
    !decide (3 * ((32 * j + (f : Int)) / 3) = 32 * j + f) || sidesOk (R (a + 1) (b + 1) f) (G (a + 1) (b + 1) f) (B (a + 1) (b + 1) f) (128 * (b + 1)) (32 * (b + 1) * (4 - (a + 1))) (CR f) (CG f) (CB f) (128 * (a + 1)) ((32 * j + f) / 3) ((32 * j + f) / 3 - d)
theorem told_of {R G B : Int → Int → Int → Int} {CR CG CB : Int → Int} {j d : Int} (h : tabV R G B CR CG CB j d = true) {a b f q : Int} (ha : 1 ≤ a ∧ a ≤ 4) (hb : 1 ≤ b ∧ b ≤ 4) (hf : 0 ≤ f ∧ f < 32) (hq : 3 * q = 32 * j + f) :
    rgbR (Ef (R a b f)) (Ef (G a b f)) (Ef (B a b f)) = (Ef (8 * q), Ef (128 * a), Ef (128 * b)) ∧ (Float64.cmp (min3 (Ef (R a b f)) (Ef (G a b f)) (Ef (B a b f))) (max3 (Ef (R a b f)) (Ef (G a b f)) (Ef (B a b f))) == some Ordering.eq) = false ∧ Float64.isZero (max3 (Ef (R a b f)) (Ef (G a b f)) (Ef (B a b f))) = false ∧ Float64.isZero (rgbD (Ef (R a b f)) (Ef (G a b f)) (Ef (B a b f))) = false := by
  obtain ⟨x, rfl, mx⟩ := pos_mem ha
  obtain ⟨y, rfl, my⟩ := pos_mem hb
  obtain ⟨z, rfl, mz⟩ := nat_mem (m := 32) hf.1 hf.2
  have h1 := List.all_eq_true.mp (List.all_eq_true.mp (List.all_eq_true.mp h x mx) y my) z mz
  have e : (32 * j + (z : Int)) / 3 = q := by rw [← hq]; exact Int.mul_ediv_cancel_left q (by decide)
  simp only [e, hq, decide_true, Bool.not_true, Bool.false_or] at h1
  exact rgbR_of h1
theorem told_v0 {a b f q : Int} (ha : 1 ≤ a ∧ a ≤ 4) (hb : 1 ≤ b ∧ b ≤ 4) (hf : 0 ≤ f ∧ f < 32) (hq : 3 * q = 32 * 0 + f) :
    rgbR (Ef (128 * b)) (Ef (b * (128 - a * (32 - f)))) (Ef (32 * b * (4 - a))) = (Ef (8 * q), Ef (128 * a), Ef (128 * b)) ∧ (Float64.cmp (min3 (Ef (128 * b)) (Ef (b * (128 - a * (32 - f)))) (Ef (32 * b * (4 - a)))) (max3 (Ef (128 * b)) (Ef (b * (128 - a * (32 - f)))) (Ef (32 * b * (4 - a)))) == some Ordering.eq) = false ∧ Float64.isZero (max3 (Ef (128 * b)) (Ef (b * (128 - a * (32 - f)))) (Ef (32 * b * (4 - a)))) = false ∧ Float64.isZero (rgbD (Ef (128 * b)) (Ef (b * (128 - a * (32 - f)))) (Ef (32 * b * (4 - a)))) = false :=
  told_of (R := fun a b f => 128 * b) (G := fun a b f => b * (128 - a * (32 - f))) (B := fun a b f => 32 * b * (4 - a)) (CR := fun f => 0) (CG := fun f => 16 * (32 - f)) (CB := fun f => 512) (j := 0) (d := 0) (by decide +kernel) ha hb hf hq
theorem told_v1 {a b f q : Int} (ha : 1 ≤ a ∧ a ≤ 4) (hb : 1 ≤ b ∧ b ≤ 4) (hf : 0 ≤ f ∧ f < 32) (hq : 3 * q = 32 * 1 + f) :
    rgbR (Ef (b * (128 - a * f))) (Ef (128 * b)) (Ef (32 * b * (4 - a))) = (Ef (8 * q), Ef (128 * a), Ef (128 * b)) ∧ (Float64.cmp (min3 (Ef (b * (128 - a * f))) (Ef (128 * b)) (Ef (32 * b * (4 - a)))) (max3 (Ef (b * (128 - a * f))) (Ef (128 * b)) (Ef (32 * b * (4 - a)))) == some Ordering.eq) = false ∧ Float64.isZero (max3 (Ef (b * (128 - a * f))) (Ef (128 * b)) (Ef (32 * b * (4 - a)))) = false ∧ Float64.isZero (rgbD (Ef (b * (128 - a * f))) (Ef (128 * b)) (Ef (32 * b * (4 - a)))) = false :=
  told_of (R := fun a b f => b * (128 - a * f)) (G := fun a b f => 128 * b) (B := fun a b f => 32 * b * (4 - a)) (CR := fun f => 16 * f) (CG := fun f => 0) (CB := fun f => 512) (j := 1) (d := 0) (by decide +kernel) ha hb hf hq
theorem told_v2 {a b f q : Int} (ha : 1 ≤ a ∧ a ≤ 4) (hb : 1 ≤ b ∧ b ≤ 4) (hf : 0 ≤ f ∧ f < 32) (hq : 3 * q = 32 * 2 + f) :
    rgbR (Ef (32 * b * (4 - a))) (Ef (128 * b)) (Ef (b * (128 - a * (32 - f)))) = (Ef (8 * q), Ef (128 * a), Ef (128 * b)) ∧ (Float64.cmp (min3 (Ef (32 * b * (4 - a))) (Ef (128 * b)) (Ef (b * (128 - a * (32 - f))))) (max3 (Ef (32 * b * (4 - a))) (Ef (128 * b)) (Ef (b * (128 - a * (32 - f))))) == some Ordering.eq) = false ∧ Float64.isZero (max3 (Ef (32 * b * (4 - a))) (Ef (128 * b)) (Ef (b * (128 - a * (32 - f))))) = false ∧ Float64.isZero (rgbD (Ef (32 * b * (4 - a))) (Ef (128 * b)) (Ef (b * (128 - a * (32 - f))))) = false :=
  told_of (R := fun a b f => 32 * b * (4 - a)) (G := fun a b f => 128 * b) (B := fun a b f => b * (128 - a * (32 - f))) (CR := fun f => 512) (CG := fun f => 0) (CB := fun f => 16 * (32 - f)) (j := 2) (d := 0) (by decide +kernel) ha hb hf hq
theorem told_v3 {a b f q : Int} (ha : 1 ≤ a ∧ a ≤ 4) (hb : 1 ≤ b ∧ b ≤ 4) (hf : 0 ≤ f ∧ f < 32) (hq : 3 * q = 32 * 3 + f) :
    rgbR (Ef (32 * b * (4 - a))) (Ef (b * (128 - a * f))) (Ef (128 * b)) = (Ef (8 * q), Ef (128 * a), Ef (128 * b)) ∧ (Float64.cmp (min3 (Ef (32 * b * (4 - a))) (Ef (b * (128 - a * f))) (Ef (128 * b))) (max3 (Ef (32 * b * (4 - a))) (Ef (b * (128 - a * f))) (Ef (128 * b))) == some Ordering.eq) = false ∧ Float64.isZero (max3 (Ef (32 * b * (4 - a))) (Ef (b * (128 - a * f))) (Ef (128 * b))) = false ∧ Float64.isZero (rgbD (Ef (32 * b * (4 - a))) (Ef (b * (128 - a * f))) (Ef (128 * b))) = false :=
  told_of (R := fun a b f => 32 * b * (4 - a)) (G := fun a b f => b * (128 - a * f)) (B := fun a b f => 128 * b) (CR := fun f => 512) (CG := fun f => 16 * f) (CB := fun f => 0) (j := 3) (d := 0) (by decide +kernel) ha hb hf hq
theorem told_v4 {a b f q : Int} (ha : 1 ≤ a ∧ a ≤ 4) (hb : 1 ≤ b ∧ b ≤ 4) (hf : 0 ≤ f ∧ f < 32) (hq : 3 * q = 32 * 4 + f) :
    rgbR (Ef (b * (128 - a * (32 - f)))) (Ef (32 * b * (4 - a))) (Ef (128 * b)) = (Ef (8 * q), Ef (128 * a), Ef (128 * b)) ∧ (Float64.cmp (min3 (Ef (b * (128 - a * (32 - f)))) (Ef (32 * b * (4 - a))) (Ef (128 * b))) (max3 (Ef (b * (128 - a * (32 - f)))) (Ef (32 * b * (4 - a))) (Ef (128 * b))) == some Ordering.eq) = false ∧ Float64.isZero (max3 (Ef (b * (128 - a * (32 - f)))) (Ef (32 * b * (4 - a))) (Ef (128 * b))) = false ∧ Float64.isZero (rgbD (Ef (b * (128 - a * (32 - f)))) (Ef (32 * b * (4 - a))) (Ef (128 * b))) = false :=
  told_of (R := fun a b f => b * (128 - a * (32 - f))) (G := fun a b f => 32 * b * (4 - a)) (B := fun a b f => 128 * b) (CR := fun f => 16 * (32 - f)) (CG := fun f => 512) (CB := fun f => 0) (j := 4) (d := 0) (by decide +kernel) ha hb hf hq
theorem told_v5 {a b f q : Int} (ha : 1 ≤ a ∧ a ≤ 4) (hb : 1 ≤ b ∧ b ≤ 4) (hf : 0 ≤ f ∧ f < 32) (hq : 3 * q = 32 * 5 + f) :
    rgbR (Ef (128 * b)) (Ef (32 * b * (4 - a))) (Ef (b * (128 - a * f))) = (Ef (8 * q), Ef (128 * a), Ef (128 * b)) ∧ (Float64.cmp (min3 (Ef (128 * b)) (Ef (32 * b * (4 - a))) (Ef (b * (128 - a * f)))) (max3 (Ef (128 * b)) (Ef (32 * b * (4 - a))) (Ef (b * (128 - a * f)))) == some Ordering.eq) = false ∧ Float64.isZero (max3 (Ef (128 * b)) (Ef (32 * b * (4 - a))) (Ef (b * (128 - a * f)))) = false ∧ Float64.isZero (rgbD (Ef (128 * b)) (Ef (32 * b * (4 - a))) (Ef (b * (128 - a * f)))) = false :=
  told_of (R := fun a b f => 128 * b) (G := fun a b f => 32 * b * (4 - a)) (B := fun a b f => b * (128 - a * f)) (CR := fun f => 0) (CG := fun f => 512) (CB := fun f => 16 * f) (j := 5) (d := 64) (by decide +kernel) ha hb hf hq
theorem told_val {a b j f q : Int} (ha : 1 ≤ a ∧ a ≤ 4) (hb : 1 ≤ b ∧ b ≤ 4) (hj : 0 ≤ j ∧ j < 6) (hf : 0 ≤ f ∧ f < 32) (hq : 3 * q = 32 * j + f) {p : UInt64 × UInt64 × UInt64} (hp : hsvR j (Ef (16 * f)) (Ef (128 * a)) (Ef (128 * b)) = p) :
    toldR p = (Ef (8 * q), Ef (128 * a), Ef (128 * b)) ∧ (Float64.cmp (min3 p.1 p.2.1 p.2.2) (max3 p.1 p.2.1 p.2.2) == some Ordering.eq) = false ∧ Float64.isZero (max3 p.1 p.2.1 p.2.2) = false ∧ Float64.isZero (rgbD p.1 p.2.1 p.2.2) = false := by
  subst hp
  unfold toldR hsvR
  rw [hsvP_Ef ha hb, hsvQ_Ef ha hb (by omega), hsvT_Ef ha hb (by omega)]
  obtain rfl | rfl | rfl | rfl | rfl | rfl : j = 0 ∨ j = 1 ∨ j = 2 ∨ j = 3 ∨ j = 4 ∨ j = 5 := six hj.1 hj.2
  · exact told_v0 ha hb hf (by omega)
  · exact told_v1 ha hb hf (by omega)
  · exact told_v2 ha hb hf (by omega)
  · exact told_v3 ha hb hf (by omega)
  · exact told_v4 ha hb hf (by omega)
  · exact told_v5 ha hb hf (by omega)
end
theorem told_mid {M : Int} (hM : 0 ≤ M ∧ M ≤ 1023) : Float64.mul (Ef (8 * M)) 4618441417868443648 = Ef (48 * M) ∧ hsvI (Ef (8 * M)) = 3 * M / 32 ∧ hsvF (Ef (8 * M)) = Ef (16 * (3 * M % 32)) := by
  have h6 : Float64.mul (Ef (8 * M)) 4618441417868443648 = Ef (48 * M) := by
    rw [Ef_six]; exact Ef_mul (by omega) (by omega) (by omega) (by omega)
  have hI : hsvI (Ef (8 * M)) = 3 * M / 32 := by
    unfold hsvI
    rw [h6, Ef_trunc (by omega), show 48 * M = 16 * (3 * M) from Int.mul_assoc 16 3 M]; exact Int.mul_ediv_mul_of_pos (a := 16) _ 32 (by decide)
  have hF : hsvF (Ef (8 * M)) = Ef (16 * (3 * M % 32)) := by
    unfold hsvF
    rw [hI, h6, Ef_ofInt (by omega), Ef_sub (by omega) (by omega), Int.emod_def, Int.mul_sub, ← Int.mul_assoc, ← Int.mul_assoc]
    rfl
  exact ⟨h6, hI, hF⟩
theorem turn_Ef {start z : Int} (hs : 0 ≤ start ∧ start < 64) (hz : 0 ≤ z ∧ z ≤ 15 * 16) : Float64.add (qf start 64) (qf z 16) = Ef (8 * (start + 4 * z)) := by
  rw [qf_Ef (c := 8 * start) (by decide) (by omega) (by omega), qf_Ef (c := 32 * z) (by decide) (by omega) (by omega), Ef_add (by omega) (by omega)]
  congr 1; omega
theorem turn_M {start z : Int} (hs : 0 ≤ start ∧ start < 64) (hz : 0 ≤ z ∧ z ≤ 15 * 16) : 0 ≤ start + 4 * z ∧ start + 4 * z ≤ 1023 := by omega
theorem qu_Ef {n : Int} (h : 0 ≤ n ∧ n < 4) : qf (n + 1) 4 = Ef (128 * (n + 1)) := qf_Ef (by decide) (by omega) (by omega)
theorem pl_Ef {m : Int} (h : 0 ≤ m ∧ m < 64) : qf m 64 = Ef (8 * m) := qf_Ef (by decide) (by omega) (by omega)
theorem mod_lem {M : Int} (h : 0 ≤ M) : 3 * (M % 64) = 32 * (3 * M / 32 % 6) + 3 * M % 32 := by
  obtain ⟨n, rfl⟩ := Int.eq_ofNat_of_zero_le h
  have e : 3 * (n % 64) = 32 * (3 * n / 32 % 6) + 3 * n % 32 := by rw [← Nat.mul_mod_mul_left 3 n 64, show 3 * 64 = 32 * 6 from rfl, Nat.mod_mul, Nat.add_comm]
  exact congrArg Int.ofNat e
theorem nab_lt {x : Int} {n : Nat} (h0 : 0 ≤ x) (h : x < n) : x.natAbs < n := Int.ofNat_lt.mp (by rw [Int.natAbs_of_nonneg h0]; exact h)
theorem toldT_at (w : World) (start leap k : Int) (th ts tv : Tok) (hs : 0 ≤ start ∧ start < 64) (hl : 1 ≤ leap ∧ leap ≤ 15) (hk : 0 ≤ k ∧ k ≤ 16) (htv : 0 < tv) :
    SpecT w 4 63 [.float (Float64.add (qf start 64) (qf (leap * k) 16)) th, .float (qf (k.fmod 4 + 1) 4) ts, .float (qf ((k.fdiv 4).fmod 4 + 1) 4) tv] (IsTupT (toldAt start leap k)) := by
  have hlk := mul_bnd (a := leap) (b := k) (m := 15) (n := 16) ⟨by omega, hl.2⟩ hk
  have hb1 := fmodb k 4 (by decide)
  have hb2 := fmodb (k.fdiv 4) 4 (by decide)
  have e1 : Float64.add (qf start 64) (qf (leap * k) 16) = Ef (8 * (start + 4 * leap * k)) := by
    rw [Int.mul_assoc 4]; exact turn_Ef hs hlk
  have e3 : toldAt start leap k = (Ef (8 * (start + 4 * leap * k).fmod 64), Ef (128 * (k.fmod 4 + 1)), Ef (128 * ((k.fdiv 4).fmod 4 + 1))) := by
    unfold toldAt placeAt
    rw [qu_Ef hb1, qu_Ef hb2, pl_Ef (fmodb (start + 4 * leap * k) 64 (by decide))]
  have hM : 0 ≤ start + 4 * leap * k ∧ start + 4 * leap * k ≤ 1023 := by
    rw [Int.mul_assoc 4]; exact turn_M hs hlk
  rw [e1, e3, qu_Ef hb1, qu_Ef hb2]
  clear e1 e3
  generalize start + 4 * leap * k = M at hM
  clear hs hl hk hlk
  generalize k.fmod 4 = u at hb1
  generalize (k.fdiv 4).fmod 4 = v at hb2
  obtain ⟨h6, hI, hF⟩ := told_mid hM
  have hmod : M.fmod 64 = M % 64 := Int.fmod_eq_emod_of_nonneg _ (by decide)
  have hmod6 : (3 * M / 32).fmod 6 = (3 * M / 32) % 6 := Int.fmod_eq_emod_of_nonneg _ (by decide)
  obtain ⟨v1, v2, v3, v4⟩ := told_val (a := u + 1) (b := v + 1) (j := (hsvI (Ef (8 * M))).fmod 6) (f := 3 * M % 32) (q := M.fmod 64) (by omega) (by omega) (by rw [hI, hmod6]; exact ⟨Int.emod_nonneg _ (by decide), Int.emod_lt_of_pos _ (by decide)⟩) ⟨Int.emod_nonneg _ (by decide), Int.emod_lt_of_pos _ (by decide)⟩ (by rw [hI, hmod6, hmod]; exact mod_lem hM.1) rfl
  rw [← v1]
  refine toldT_spec w _ _ _ th ts tv ?_ (by rw [h6]; exact Ef_fin (by omega)) (by rw [hI]; exact nab_lt (Int.ediv_nonneg (Int.mul_nonneg (by decide) hM.1) (by decide)) (Int.ediv_lt_of_lt_mul (by decide) (Int.lt_of_le_of_lt (Int.mul_le_mul_of_nonneg_left hM.2 (by decide)) (by decide)))) htv _ (by rw [hF]) v2 v3 v4
  rw [Ef_0, Ef_eq (by unfold Sm; omega) (by unfold Sm; omega)]
  simp; omega
end
section
theorem isNaN_qf (a b : Int) : Float64.isNaN (qf a b) = false := by unfold qf Float64.ofFrac; exact PySem.W.isNaN_pack _ (PySem.W.roundMag_le _ _)
theorem cmp_self {x : UInt64} (h : Float64.isNaN x = false) : (Float64.cmp x x == some Ordering.eq) = true := by
  unfold Float64.isNaN at h
  unfold Float64.cmp
  cases hd : Float64.decode x with
  | nan => rw [hd] at h; cases h
  | inf n => simp
  | fin n m e => simp; rfl
theorem isSame_float {M : Model} {A : Around} {E : Value → Shared → Prop} {s : Shared} {x : UInt64} {t u : Tok} {Q : Bool → Shared → Prop} (ht : 0 < t) (hu : 0 < u) (hb : NoneBooked s.heap) (hq : ∀ b, Q b s) : wpAny M A (isSame (.float x t) (.float x u)) Q E s := by
  have h0 : (t == 0 || u == 0) = false := by
    have h1 : (t == 0) = false := beq_eq_false_iff_ne.mpr (Nat.ne_of_gt ht)
    have h2 : (u == 0) = false := beq_eq_false_iff_ne.mpr (Nat.ne_of_gt hu)
    rw [h1, h2]; rfl
  show wpAny M A (isSame.created (x == x && !Float64.isNaN x) t u) Q E s
  cases (x == x && !Float64.isNaN x) with
  | true =>
    have k : wpAny M A (isSame.created (Str.ofString "" == Str.ofString "") t u) Q E s := wpAny_isSame_str h0 hb hq
    rwa [show (Str.ofString "" == Str.ofString "") = true from beq_self_eq_true _] at k
  | false =>
    have k : wpAny M A (isSame.created (Str.ofString "" == Str.ofString "a") t u) Q E s := wpAny_isSame_str h0 hb hq
    rwa [show (Str.ofString "" == Str.ofString "a") = false by decide +kernel] at k
theorem eqAt_float {A : Around} {s : Shared} {x : UInt64} {t u : Tok} (h : Float64.isNaN x = false) (ht : 0 < t) (hu : 0 < u) (hb : NoneBooked s.heap) : PySem.SeqAt.EqAt A s (.float x t) (.float x u) true := fun prog w E Q hq => by
  unfold eqBool
  refine wpAny_holding ?_
  refine wpAny_ite_split (fun _ => wpAny_bind (wpAny_rule (wpAny_pure hq))) (fun _ => ?_)
  refine wpAny_bind (isSame_float ht hu hb fun b => ?_)
  cases b with
  | true => exact wpAny_pure hq
  | false =>
    refine wpAny_bind (PySem.AutoFloatOps.eq_0 (wpAny_truthy_bool ?_))
    rw [cmp_self h]; exact hq
theorem eqAt_flt3 {A : Around} {s : Shared} {D D' : Addr} {p : UInt64 × UInt64 × UInt64} {t1 t2 t3 u1 u2 u3 : Tok} (h1 : s.heap.get? D = some (flt3of p t1 t2 t3)) (h2 : s.heap.get? D' = some (flt3of p u1 u2 u3)) (hu : A.units < cLine)
    (p1 : 0 < t1) (p2 : 0 < t2) (p3 : 0 < t3) (q1 : 0 < u1) (q2 : 0 < u2) (q3 : 0 < u3) (hb : NoneBooked s.heap) (n1 : Float64.isNaN p.1 = false) (n2 : Float64.isNaN p.2.1 = false) (n3 : Float64.isNaN p.2.2 = false) : PySem.SeqAt.EqAt A s (.ref D) (.ref D') true := by
  by_cases h : D = D'
  · subst h; exact PySem.SeqAt.EqAt.same _
  · refine PySem.SeqAt.EqAt.of_refs h ?_
    have := PySem.SeqAt.RcAt.tuples (A := A) (s := s) (e := fun _ => true) (items := #[.float p.1 t1, .float p.2.1 t2, .float p.2.2 t3]) (items2 := #[.float p.1 u1, .float p.2.1 u2, .float p.2.2 u3]) ⟨_, h1, rfl, 0, rfl⟩ ⟨_, h2, rfl, 0, rfl⟩ hu (fun j a b => by
      match j with
      | 0 => exact eqAt_float n1 p1 q1 hb
      | 1 => exact eqAt_float n2 p2 q2 hb
      | 2 => exact eqAt_float n3 p3 q3 hb
      | k + 3 => simp at a; omega)
    have key : ∀ b, b = true → PySem.SeqAt.RcAt A s (.ref D) (.ref D') b → PySem.SeqAt.RcAt A s (.ref D) (.ref D') true := fun b hb h => hb ▸ h
    exact key _ (by rfl) this
theorem told_ne {prog : Program} {w : World} {A : Around} {E : Value → Shared → Prop} {s : Shared} {Q : Value → Shared → Prop} {h₀ : Heap} {L a b : Addr} {led : List (Addr × Obj)} {start leap : Int} {ks : List Int} {ys zs : List Value} {tl tl' led0 led1 : List (Addr × Obj)}
    (N : News h₀ L s.heap led) (hT : TL (toldT start leap) ks ys tl) (hT' : TL (toldT start leap) ks zs tl') (ha : (a, LCg.lst ys) ∈ led) (hb : (b, LCg.lst zs) ∈ led) (hs : ∀ p ∈ tl, p ∈ led0) (hs0 : ∀ p ∈ led0, p ∈ led) (hs' : ∀ p ∈ tl', p ∈ led1) (hs1 : ∀ p ∈ led1, p ∈ led) (hu : A.units + 64 < cLine) (hbk : NoneBooked s.heap)
    (h : Q (.bool false) s) : wpAny (model prog w) A (compareOp .NotEq (.ref a) (.ref b)) Q E s := by
  have hle : ys.toArray.size = zs.toArray.size := by simp only [List.size_toArray]; rw [hT.len, hT'.len]
  refine PySem.SeqAt.RcNeAt.lists (A := A) (s := s) (e := fun _ => true) (items := ys.toArray) (items2 := zs.toArray) ⟨_, (N _ ha).1, rfl, _, rfl⟩ ⟨_, (N _ hb).1, rfl, _, rfl⟩ hle (Nat.lt_of_le_of_lt (Nat.le_add_right _ _) hu) (fun j h1 h2 => ?_) prog w E Q (by rw [show (List.range ys.toArray.size).all (fun _ => true) = true from by simp]; exact h)
  have h1' : j < ks.length := by rw [← hT.len]; simpa using h1
  obtain ⟨D, o, e1, e2, t1, t2, t3, p1, p2, p3, rfl⟩ := hT.at' j ks[j] (by simp [h1'])
  obtain ⟨D', o', e1', e2', u1, u2, u3, q1, q2, q3, rfl⟩ := hT'.at' j ks[j] (by simp [h1'])
  have g1 : ys.toArray[j] = .ref D := by
    have : ys.toArray[j]? = some (.ref D) := by simpa using e1
    rw [Array.getElem?_eq_getElem h1] at this; exact Option.some.inj this
  have g2 : zs.toArray[j] = .ref D' := by
    have : zs.toArray[j]? = some (.ref D') := by simpa using e1'
    rw [Array.getElem?_eq_getElem h2] at this; exact Option.some.inj this
  rw [g1, g2]
  exact eqAt_flt3 (A := A.in1) (N _ (hs0 _ (hs _ e2))).1 (N _ (hs1 _ (hs' _ e2'))).1 (by show A.units + 1 < cLine; omega) p1 p2 p3 q1 q2 q3 hbk (isNaN_qf _ _) (isNaN_qf _ _) (isNaN_qf _ _)
theorem list_item0 {prog : Program} {w : World} {A : Around} {E : Value → Shared → Prop} {s : Shared} {h₀ : Heap} {L l : Addr} {led : List (Addr × Obj)} {v : Value} {r : List Value} {u : Tok} {value slice : PySem.Expr} {Q : Value → Shared → Prop}
    (N : News h₀ L s.heap led) (hm : (l, LCg.lst (v :: r)) ∈ led) (h : Q v s)
    (hsb : subscripted slice false (.ref l) (.int 0 u) = operate [.ref l, .int 0 u] (getItem (.ref l) (.int 0 u)) := by with_unfolding_all rfl) :
    wpAny (model prog w) A (subscriptTail value slice (.ref l) (.int 0 u)) Q E s := by
  have hl : s.heap.IsList l (v :: r).toArray := ⟨_, (N _ hm).1, rfl, _, rfl⟩
  exact tail_any hl.typeIs slot_list_getitem.lookup (wpAny_getItem_list hl (by decide) (by decide) (by simp) h) hsb
theorem nsOk_of {K : Frag} {N : Addr} {c : Value} {d : Option Addr} {es : Array DictEntry} {n : Nat} {sl : Array (Option Value)} (hL : K.lookup N = some ⟨c, d, .dict es n, sl⟩) (h : (es.all fun e => match e.key with | .str _ _ => true | _ => false) = true) : nsOkIn K N = true := by
  unfold nsOkIn; rw [hL]; exact h
theorem booked_of {w : World} {h₀ h : Heap} {L : Addr} {m : Str → Option Value} (X : (hd.heap_39 w.params).In h₀) (F : Fr h₀ L h m) : NoneBooked h := by
  have h1 : nsIn (hd.heap_39 w.params) cStatics sharingNotToldKey = some none := by k_is
  have h2 : nsOkIn (hd.heap_39 w.params) cStatics = true := by
    refine' nsOk_of ?ka ?kb
    case ka => k_is
    case kb => first | rfl | with_unfolding_all rfl | decide
  have G : h₀.Ns cStatics (h₀.nsMap cStatics) := .of_isNs (isNs_of_in X h2)
  exact ⟨_, G.at' fun o e => F.keep _ o e, ns_none_of X G h1⟩
theorem allLt_mem {d : Addr} : ∀ {l : List (Addr × Obj)}, AllLt d l → ∀ p ∈ l, p.1 < d
  | [], _, _, h => nomatch h
  | _ :: _, x, p, h => by
    rcases List.mem_cons.mp h with rfl | h
    · exact x.1
    · exact allLt_mem x.2 p h
theorem lt_all {C D d : Addr} {oC oD : Obj} {led : List (Addr × Obj)} (h : @LT.lt Nat _ C d ∧ @LT.lt Nat _ D d ∧ AllLt d led) : ∀ q ∈ (C, oC) :: (D, oD) :: led, q.1 < d := fun q hq => by
  rcases List.mem_cons.mp hq with rfl | hq
  · exact h.1
  · rcases List.mem_cons.mp hq with rfl | hq
    · exact h.2.1
    · exact allLt_mem h.2.2 q hq
theorem toldT_of {start leap k : Int} {x y z : UInt64} {t1 t2 t3 : Tok} (e : (x, y, z) = toldAt start leap k) (p1 : 0 < t1) (p2 : 0 < t2) (p3 : 0 < t3) : toldT start leap k { cls := .type "tuple", data := .seq #[.float x t1, .float y t2, .float z t3] } :=
  ⟨t1, t2, t3, p1, p2, p3, by unfold flt3of; rw [← e]⟩
end
section
local macro_rules | `(tactic| k_mem) => `(tactic| assumption)
section
theorem words14 : True := by
  w_top off
  k_with_none
  k_with "to iter" => (repeat' ((fail_if_success (with_reducible show wpAny _ _ (PySem.pyIter _) _ _ _)); first | (k_unfold; (try dsimp only)) | walk1 | (dsimp only; walk1)))
  k_with "InvEndN" => (refine halt ?_)
  k_with "to for" => (repeat' ((fail_if_success (with_reducible show wpAny _ _ (PySem.exec (PySem.Stmt.For _ _ _ _ _) _) _ _ _)); first | (k_unfold; (try dsimp only)) | walk1 | (dsimp only; walk1)))
  k_with "to while" => (repeat' ((fail_if_success (with_reducible show wpAny _ _ (PySem.exec (PySem.Stmt.While _ _ _ _) _) _ _ _)); first | (k_unfold; (try dsimp only)) | walk1 | (dsimp only; walk1)))
  k_with "KswEnd" => (refine halt ?_)
  k_with "subscriptTail Name Slice str ref" => ((with_reducible show wpAny _ _ (subscriptTail _ (PySem.Expr.Slice none (some (PySem.Expr.BoolOp _ _ _)) none _) _ _) _ _ _); (with_reducible rename Fr _ _ _ _ => Fkx); (with_reducible rename News _ _ _ _ => Nkx); refine slice_nn (s := ⟨_, _, _, _, _⟩) Fkx Nkx ?_; intro _ _ _ _ _)
  k_with "to ite" => (repeat' ((fail_if_success (with_reducible show @ite Prop (true = true) _ _ _)); (fail_if_success (with_reducible show @ite Prop (false = true) _ _ _)); first | (k_unfold; (try dsimp only)) | walk1 | (dsimp only; walk1)))
  trivial
def lamQual : Str := (Str.ofString "_law_parted" ++ Str.ofString ".<locals>.") ++ Str.ofString "<lambda>"
def TabOk (ps : Array Value) (led : List (Addr × Obj)) : Prop :=
  ps = #[] ∨ ∃ c' oc vs t, ps = #[] ++ #[rawInt ((122 : Nat) : Int), rawInt ((48 : Nat) : Int), .ref c'] ∧ (c', oc) ∈ led ∧ oc.data = .fields vs ∧ vs[1]? = some (Value.str lamQual t)
theorem len_led {prog : Program} {w : World} {A : Around} {E : Value → Shared → Prop} {s : Shared} {h₀ : Heap} {L l : Addr} {led : List (Addr × Obj)} {vs : List Value} {xs : List Str} {Q : Value → Shared → Prop} (N : News h₀ L s.heap led) (hS : StrsAre vs xs) (hm : (l, LCg.lst vs) ∈ led) (hz : xs.length ≤ 1000)
    (h : ∀ t tk, Q (.int (xs.length : Int) t) { s with toks := tk }) : wpAny (model prog w) A (call (.builtin "len") [.ref l]) Q E s := by
  have hl : s.heap.IsList l vs.toArray := ⟨_, (N _ hm).1, rfl, _, rfl⟩
  have e : vs.toArray.size = xs.length := by simp [strsAre_length hS]
  refine len_list hl (by rw [e]; omega) ?_
  rw [e]; exact h _ _
theorem strs_item {prog : Program} {w : World} {A : Around} {E : Value → Shared → Prop} {s : Shared} {h₀ : Heap} {L l : Addr} {led : List (Addr × Obj)} {vw : List Value} {xs : List Str} {n : Int} {u : Tok} {value slice : PySem.Expr} {Q : Value → Shared → Prop}
    (N : News h₀ L s.heap led) (hS : StrsAre vw xs) (hm : (l, LCg.lst vw) ∈ led) (h0 : 0 ≤ n) (h1 : n < xs.length) (hz : xs.length ≤ 1000) (h : ∀ t, Q (.str (xs.getD n.toNat (Str.ofString "")) t) s)
    (hsb : subscripted slice false (.ref l) (.int n u) = operate [.ref l, .int n u] (getItem (.ref l) (.int n u)) := by with_unfolding_all rfl) :
    wpAny (model prog w) A (subscriptTail value slice (.ref l) (.int n u)) Q E s := by
  have hl : s.heap.IsList l vw.toArray := ⟨_, (N _ hm).1, rfl, _, rfl⟩
  have hn : n.toNat < xs.length := by omega
  obtain ⟨t, ht⟩ := strs_at hS n.toNat (xs.getD n.toNat (Str.ofString "")) (by simp [hn])
  exact tail_any hl.typeIs slot_list_getitem.lookup (wpAny_getItem_list hl h0 (by omega) (by simpa using ht) (h t)) hsb
theorem noCell_fields {o : Obj} {vs : Array Value} (h : o.data = .fields vs) : NoCell o := fun v hv => by rw [h] at hv; cases hv
theorem sub_part1 {u y n f c d a b t : Addr × Obj} {r : List (Addr × Obj)} : ∀ p ∈ u :: y :: n :: t :: ([c] ++ r), p ∈ u :: y :: n :: f :: c :: d :: a :: b :: t :: r := fun p hp => by
  simp only [List.mem_cons, List.cons_append, List.nil_append] at hp ⊢
  rcases hp with h | h | h | h | h | h <;> simp [h]
theorem sub_part2 {u y n f d a b t : Addr × Obj} {r : List (Addr × Obj)} : ∀ p ∈ u :: y :: n :: t :: ([] ++ r), p ∈ u :: y :: n :: f :: d :: a :: b :: t :: r := fun p hp => by
  simp only [List.mem_cons, List.nil_append] at hp ⊢
  rcases hp with h | h | h | h | h <;> simp [h]
/-- a value that tells a bool of each of the ints, whatever else the ledger holds beside R -/
def PredOk (w : World) (R : List (Addr × Obj)) (f : Addr) (p : Int → Bool) (ks : List Int) : Prop :=
  ∀ (k : Int) (t : Tok) (loose : List Str) (mean : ExcName → Option Value) (mg mb : Str → Option Value) (news : List (Addr × Obj)) (dp un : Nat) (gd : Option (List Code)) (cn : Str) (cs : Scope) (a : Addr) (ccd : Value) (cl : List (Str × Addr)) (outer : List Env) (A₀ : Around) (base h₀ : Heap) (L : Addr) (m : Str → Option Value) (s : Shared) (Q E : Value → Shared → Prop),
    k ∈ ks → Below A₀ base outer h₀ → Fr h₀ L s.heap m → (hd.heap_39 w.params).In h₀ → News h₀ L s.heap news → (∀ q ∈ R, q ∈ news) → Top topProg loose mean mg mb h₀ → cs.kind = .function →
    dp + 2 < recursionLimit → un + 8 * 2 + 8 < cLine →
    (∀ h' tk', Fr h₀ L h' m → News h₀ L h' news → Q (.bool (p k)) { s with heap := h', toks := tk' }) →
    wpAny (model PG w) (ktrTop dp un gd cn cs L a ccd cl outer) (call (.ref f) [.int k t]) Q E s
theorem PredOk.use {w : World} {R : List (Addr × Obj)} {f : Addr} {p : Int → Bool} {ks : List Int} (H : PredOk w R f p ks) {k : Int} {t : Tok} {loose : List Str} {mean : ExcName → Option Value} {mg mb : Str → Option Value} {news : List (Addr × Obj)} {dp un : Nat} {gd : Option (List Code)} {cn : Str} {cs : Scope} {a : Addr} {ccd : Value} {cl : List (Str × Addr)} {outer : List Env} {A₀ : Around} {base h₀ : Heap} {L : Addr} {m : Str → Option Value} {s : Shared} {Q E : Value → Shared → Prop}
    (hk : k ∈ ks) (B : Below A₀ base outer h₀) (F : Fr h₀ L s.heap m) (X : (hd.heap_39 w.params).In h₀) (N : News h₀ L s.heap news) (hR : ∀ q ∈ R, q ∈ news) (T : Top topProg loose mean mg mb h₀) (hf : cs.kind = .function)
    (hd : dp + 2 < recursionLimit) (hu : un + 8 * 2 + 8 < cLine) (h : ∀ h' tk', Fr h₀ L h' m → News h₀ L h' news → Q (.bool (p k)) { s with heap := h', toks := tk' }) :
    wpAny (model PG w) (ktrTop dp un gd cn cs L a ccd cl outer) (call (.ref f) [.int k t]) Q E s := H k t _ _ _ _ _ _ _ _ _ _ _ _ _ _ _ _ _ _ _ _ _ _ hk B F X N hR T hf hd hu h
theorem sub_two {a b : Addr × Obj} {r o : List (Addr × Obj)} : ∀ p ∈ r, p ∈ a :: b :: (r ++ o) := fun p hp => .tail _ (.tail _ (List.mem_append_left _ hp))
theorem led_sub2 {x y : Addr × Obj} {r o : List (Addr × Obj)} : ∀ p ∈ x :: y :: r, p ∈ x :: y :: (r ++ o) := fun p hp => by
  rcases List.mem_cons.mp hp with rfl | hp
  · exact .head _
  · rcases List.mem_cons.mp hp with rfl | hp
    · exact .tail _ (.head _)
    · exact .tail _ (.tail _ (List.mem_append_left _ hp))
theorem led_own2 {x y : Addr × Obj} {r o : List (Addr × Obj)} : ∀ p ∈ o, p ∈ x :: y :: (r ++ o) := fun _ hp => .tail _ (.tail _ (List.mem_append_right _ hp))
theorem filt_yes {vs : List Value} {pre : List Int} {p : Int → Bool} {k : Int} {t : Tok} (h : IntsAre vs (pre.filter p)) (hk : p k = true) : IntsAre (vs ++ [.int k t]) ((pre ++ [k]).filter p) := by
  rw [List.filter_append]
  simpa [hk] using IntsAre.append h (.cons k t .nil)
theorem filt_no {vs : List Value} {pre : List Int} {p : Int → Bool} {k : Int} (h : IntsAre vs (pre.filter p)) (hk : p k = false) : IntsAre vs ((pre ++ [k]).filter p) := by
  rw [List.filter_append]
  simpa [hk] using h
theorem sub_swap {a b c : Addr × Obj} {r : List (Addr × Obj)} : ∀ p ∈ a :: c :: b :: r, p ∈ a :: b :: c :: r := fun p hp => by
  simp only [List.mem_cons] at hp ⊢
  rcases hp with h | h | h | h <;> simp [h]
def partLt (xs : List Str) (n k : Int) : Bool := decide ((xs.getD k.toNat (Str.ofString "")).cps.toList < (xs.getD n.toNat (Str.ofString "")).cps.toList)
theorem words15 : True := by
  w_top off
  k_with_none
  k_with "to iter" => (repeat' ((fail_if_success (with_reducible show wpAny _ _ (PySem.pyIter _) _ _ _)); first | (k_unfold; (try dsimp only)) | walk1 | (dsimp only; walk1)))
  k_with "InvEndN" => (refine halt ?_)
  k_with "to for" => (repeat' ((fail_if_success (with_reducible show wpAny _ _ (PySem.exec (PySem.Stmt.For _ _ _ _ _) _) _ _ _)); first | (k_unfold; (try dsimp only)) | walk1 | (dsimp only; walk1)))
  k_with "to while" => (repeat' ((fail_if_success (with_reducible show wpAny _ _ (PySem.exec (PySem.Stmt.While _ _ _ _) _) _ _ _)); first | (k_unfold; (try dsimp only)) | walk1 | (dsimp only; walk1)))
  k_with "KswEnd" => (refine halt ?_)
  k_with "subscriptTail Name Slice str ref" => ((with_reducible show wpAny _ _ (subscriptTail _ (PySem.Expr.Slice none (some (PySem.Expr.BoolOp _ _ _)) none _) _ _) _ _ _); (with_reducible rename Fr _ _ _ _ => Fkx); (with_reducible rename News _ _ _ _ => Nkx); refine slice_nn (s := ⟨_, _, _, _, _⟩) Fkx Nkx ?_; intro _ _ _ _ _)
  k_with "to ite" => (repeat' ((fail_if_success (with_reducible show @ite Prop (true = true) _ _ _)); (fail_if_success (with_reducible show @ite Prop (false = true) _ _ _)); first | (k_unfold; (try dsimp only)) | walk1 | (dsimp only; walk1)))
  k_with "call ref" => (k_here; (with_reducible show wpAny _ _ (PySem.call (Value.ref _) [Value.int _ _]) _ _ _); (rename PredOk _ _ _ _ _ => hP9); (with_unfolding_all refine' PredOk.use hP9 ?_ ?_ ?_ ?_ ?_ ?_ ?_ ?_ ?_ ?_ ?_); (repeat ((fail_if_success (refine (show (_ : Prop) from ?_))); rotate_left 1)); (· (assumption)); (· (k_asm)); (· (k_asm)); (· (k_asm)); (· (k_asm)); (· (exact sub_two)); (· (k_asm)); (· (first | exact rfl | assumption)); (· (ktr_room)); (· (ktr_units)); k_whole; intro hkx tkkx Fkx Nkx; (try dsimp only); (try k_fold))
  trivial
theorem split_spec (w : World) (R : List (Addr × Obj)) (f Dl : Addr) (vs : List Value) (c : Nat) (ks : List Int) (p : Int → Bool) (hP : PredOk w R f p ks) (hI : IntsAre vs ks) (hks : ks.length ≤ 100) (hml : (Dl, listOf vs.toArray c) ∈ R) (foc : Value) (fod : Option Addr) (fd : FuncData) (fsl : Array (Option Value)) (hfo : (f, (⟨foc, fod, .func fd, fsl⟩ : Obj)) ∈ R)
    (loose : List Str) (mean : ExcName → Option Value) (mg mb : Str → Option Value) (dp un : Nat) (gd : Option (List Code)) (cn : Str) (cs : Scope) (a : Addr) (ccd : Value) (cl : List (Str × Addr)) (outer : List Env) (A₀ : Around) (base h₀ : Heap) (L : Addr) (m : Str → Option Value) (s : Shared) (Q E : Value → Shared → Prop)
    (B : Below A₀ base outer h₀) (F : Fr h₀ L s.heap m) (X : (hd.heap_39 w.params).In h₀) (N : News h₀ L s.heap R) (T : Top topProg loose mean mg mb h₀) (hk : cs.kind = .function) (hC : CodeHd base 81 77) (hdp : dp + 4 < recursionLimit) (hun : un + 8 * 4 + 8 < cLine)
    (hret : ∀ U Dy Dn vy vn ny nn h' tk', IntsAre vy (ks.filter p) → IntsAre vn (ks.filter fun k => !p k) → Fr h₀ L h' m → News h₀ L h' ((U, { cls := .type "tuple", data := .seq #[.ref Dy, .ref Dn] }) :: (Dy, listOf (List.toArray vy) ny) :: (Dn, listOf (List.toArray vn) nn) :: R) → Q (.ref U) { s with heap := h', toks := tk' }) :
    wpAny (model PG w) (ktrTop dp un gd cn cs L a ccd cl outer) (call (.ref 42) [.ref Dl, .ref f]) Q E s := by
  refine wpAny_call ?_
  k_dflt cell_enter
  walk_at "to for"
  rename Fr _ _ _ _ => F2
  rename News _ _ _ _ => N2
  rename_i Dy hA l1y hB Dn hC l1n hD
  obtain ⟨hyn, hnR⟩ := l1n
  have hnR' := allLt_mem hnR
  with_unfolding_all refine' For_invVF F2 ?k1b ?k2b ?_
  case k1b => rfl
  case k2b => rfl
  walk_at "to iter"
  with_unfolding_all refine' kst_listL (σ := List Value × Nat × List Value × Nat) (fun c => (Dn, listOf c.2.2.1.toArray c.2.2.2) :: (Dy, listOf c.1.toArray c.2.1) :: R) (fun c => [(Str.ofString "yes", .ref Dy), (Str.ofString "no", .ref Dn), (Str.ofString "predicate", .ref f)]) (fun _ => True) [] (fun pre c => IntsAre c.1 (pre.filter p) ∧ IntsAre c.2.2.1 (pre.filter fun k => !p k)) ([], 0, [], 0) rfl ?hl hI ?kF ?kN trivial ?kk ?kp ?turn ?done
  case hl => exact fun c => .tail _ (.tail _ hml)
  case kF => k_asm
  case kN => k_asm
  case kk => kst_all
  case kp => exact ⟨.nil, .nil⟩
  case turn =>
    rintro ⟨vy, ny, vn, nn⟩ pre post k t u1 h1 tk1 own hks1 hkm hoff _ hP1 F1 N1
    dsimp only at hP1 F1 N1
    simp only [List.cons_append] at N1
    have hneY : ∀ q ∈ R ++ own, q.1 ≠ Dy := fun q hq => (List.mem_append.mp hq).elim (fun h => Nat.ne_of_lt (l1y q h)) fun h => hoff q h Dy (.tail _ (.head _))
    have hfo' := List.mem_append_left own hfo
    have hneN : ∀ q ∈ R ++ own, q.1 ≠ Dn := fun q hq => (List.mem_append.mp hq).elim (fun h => Nat.ne_of_lt (hnR' q h)) fun h => hoff q h Dn (.head _)
    have hyl : vy.length ≤ 100 := by rw [hP1.1.length]; exact Nat.le_trans (List.length_filter_le _ _) (by have := congrArg List.length hks1; simp at this; omega)
    have hnl : vn.length ≤ 100 := by rw [hP1.2.length]; exact Nat.le_trans (List.length_filter_le _ _) (by have := congrArg List.length hks1; simp at this; omega)
    clear F2 N2 F N
    k_steps
    all_goals (
      (rename Fr _ _ _ _ => FE)
      (rename News _ _ _ _ => nE)
      (try simp only [List.push_toArray] at nE)
      unfold Halt
      refine' kst_end (_, _, _, _) FE nE ?hn ?ho ?ha trivial ?hk ?hr ?hp
      case hn => exact led_sub2
      case ho => exact led_own2
      case ha => rfl
      case hk => kst_all
      case hr => kst_same
      case hp =>
        first
        | exact ⟨filt_yes hP1.1 (by assumption), filt_no hP1.2 (by simp only [Bool.not_eq_false']; assumption)⟩
        | exact ⟨filt_no hP1.1 (by assumption), filt_yes hP1.2 (by simp only [Bool.not_eq_true']; assumption)⟩)
  case done =>
    rintro ⟨vy, ny, vn, nn⟩ u1 h1 tk1 _ hP1 F1 N1
    dsimp only at hP1 F1 N1
    clear F2 N2 F N
    k_steps
    all_goals (
      (rename Fr _ _ _ _ => FE)
      (rename News _ _ _ _ => nE)
      exact hret _ Dy Dn vy vn ny nn _ _ hP1.1 hP1.2 (by assumption) (News.sub nE sub_swap))
end
section
theorem words16 : True := by
  w_top off
  k_with_none
  k_with "to iter" => (repeat' ((fail_if_success (with_reducible show wpAny _ _ (PySem.pyIter _) _ _ _)); first | (k_unfold; (try dsimp only)) | walk1 | (dsimp only; walk1)))
  k_with "InvEndN" => (refine halt ?_)
  k_with "to for" => (repeat' ((fail_if_success (with_reducible show wpAny _ _ (PySem.exec (PySem.Stmt.For _ _ _ _ _) _) _ _ _)); first | (k_unfold; (try dsimp only)) | walk1 | (dsimp only; walk1)))
  k_with "to while" => (repeat' ((fail_if_success (with_reducible show wpAny _ _ (PySem.exec (PySem.Stmt.While _ _ _ _) _) _ _ _)); first | (k_unfold; (try dsimp only)) | walk1 | (dsimp only; walk1)))
  k_with "KswEnd" => (refine halt ?_)
  k_with "subscriptTail Name Slice str ref" => ((with_reducible show wpAny _ _ (subscriptTail _ (PySem.Expr.Slice none (some (PySem.Expr.BoolOp _ _ _)) none _) _ _) _ _ _); (with_reducible rename Fr _ _ _ _ => Fkx); (with_reducible rename News _ _ _ _ => Nkx); refine slice_nn (s := ⟨_, _, _, _, _⟩) Fkx Nkx ?_; intro _ _ _ _ _)
  k_with "to ite" => (repeat' ((fail_if_success (with_reducible show @ite Prop (true = true) _ _ _)); (fail_if_success (with_reducible show @ite Prop (false = true) _ _ _)); first | (k_unfold; (try dsimp only)) | walk1 | (dsimp only; walk1)))
  k_with "call builtin:len" => (k_here; (rename StrsAre _ _ => hS9); (with_unfolding_all refine' len_led ?_ hS9 ?_ ?_ ?_; (repeat ((fail_if_success (refine (show (_ : Prop) from ?_))); rotate_left 1)); (· (k_asm)); (· (k_mem)); (· (omega)); k_whole); intro tkx tkkx)
  k_with "subscriptTail" => (k_here; (with_reducible show wpAny _ _ (subscriptTail _ _ (Value.ref _) (Value.int _ _)) _ _ _); (rename StrsAre _ _ => hS9); (with_unfolding_all refine' strs_item ?_ hS9 ?_ ?_ ?_ ?_ ?_; (repeat ((fail_if_success (refine (show (_ : Prop) from ?_))); rotate_left 1)); (· (k_asm)); (· (k_mem)); (· (omega)); (· (omega)); (· (omega)); k_whole); intro tkx)
  k_with "pyIter ref" => (refine halt2 ?_)
  k_with "call ref" => ((with_reducible show wpAny _ _ (PySem.call (Value.ref 42) _) _ _ _); refine halt2 ?_)
  trivial
theorem parted_spec (w : World) (Dw : Addr) (vw : List Value) (xs : List Str) (n : Int) (tn : Tok) (loose : List Str) (mean : ExcName → Option Value) (mg mb : Str → Option Value) (news : List (Addr × Obj)) (ps : Array Value) (dp un : Nat) (gd : Option (List Code)) (cn : Str) (cs : Scope) (a : Addr) (ccd : Value) (cl : List (Str × Addr)) (outer : List Env) (A₀ : Around) (base h₀ : Heap) (L : Addr) (m : Str → Option Value) (s : Shared) (Q E : Value → Shared → Prop)
    (B : Below A₀ base outer h₀) (F : Fr h₀ L s.heap m) (X : (hd.heap_39 w.params).In h₀) (N : News h₀ L s.heap ((77, tabObj ps) :: news)) (T : Top topProg loose mean mg mb h₀) (hk : cs.kind = .function) (hC : CodeHd base 81 77) (hps : TabOk ps news) (hnt : ∀ p ∈ news, p.1 ≠ 77)
    (hw : (Dw, LCg.lst vw) ∈ news) (hS : StrsAre vw xs) (hxl : xs.length ≤ 16) (hn : 0 ≤ n ∧ n < xs.length) (hdp : dp + 6 < recursionLimit) (hun : un + 8 * 6 + 8 < cLine)
    (hret : ∀ U Dy Dn vy vn ny nn new ps' h' tk', IntsAre vy ((rangeKs 0 ((xs.length : Int) - 0).toNat).filter (fun k => partLt xs n k)) → IntsAre vn ((rangeKs 0 ((xs.length : Int) - 0).toNat).filter fun k => !partLt xs n k) → TabOk ps' (new ++ news) → (∀ p ∈ new, NoCell p.2) → (∀ p ∈ new, p.1 ≠ 77) → Fr h₀ L h' m →
      News h₀ L h' ((U, { cls := .type "tuple", data := .seq #[.ref Dy, .ref Dn] }) :: (Dy, listOf (List.toArray vy) ny) :: (Dn, listOf (List.toArray vn) nn) :: (77, tabObj ps') :: (new ++ news)) → Q (.ref U) { s with heap := h', toks := tk' }) :
    wpAny (model PG w) (ktrTop dp un gd cn cs L a ccd cl outer) (call (.ref 82) [.ref Dw, .int n tn]) Q E s := by
  rcases hps with rfl | ⟨c9, oc9, vs9, t9, rfl, hmc9, hd9, hv9⟩
  · refine wpAny_call ?_
    k_dflt (refine' code_defC ?k1 ?k2 ?k3 ?k4 ?k5 ?kA ?kF ?kK ?k6 ?k7 ?k8 ?k9 ?kB ?kD ?_ ?c2 ?c3 ?c4; (case kA => exact rfl); (case kF => exact rfl); (case kK => assumption); (case k1 => k_asm); (case k2 => k_asm); (case k3 => k_asm); (case k4 => k_asm); (case k5 => k_asm); (case k6 => k_is); (case k7 => k_is); (case k8 => ktr_room); (case k9 => exact BindsTo.of_eq rfl); (case kB => exact rfl); (case kD => decide +kernel); (case c2 => exact rfl); (case c3 => exact rfl); (case c4 => exact rfl); k_whole)
    intro g' L' h' tk' cells' FG' F' N' Y' B' X' T' l1
    (try k_lt l1)
    k_cells Y'
    (try simp only [List.cons_append, List.nil_append] at N'); (try dsimp only); (try k_lift B'); (try k_fold)
    k_steps
    unfold Halt2
    (rename Fr _ _ _ _ => F8)
    (rename News _ _ _ _ => N8)
    (rename IntsAre _ _ => hI8)
    with_unfolding_all refine' split_spec w _ _ _ _ _ _ (fun k => partLt xs n k) ?hP hI8 ?hks ?hml _ _ _ _ ?hfo _ _ _ _ _ _ _ _ _ _ _ _ _ _ _ _ _ _ _ _ _ ?B ?F8 ?X N8 ?T ?hk ?hC ?hdp ?hun ?hret
    case F8 => k_asm
    case hks => rw [rangeKs_length]; omega
    case hml => k_mem
    case hfo => exact List.Mem.head _
    case B => k_asm
    case X => k_asm
    case T => k_asm
    case hk => rfl
    case hC => exact hC
    case hdp => ktr_room
    case hun => ktr_units
    case hP =>
      clear F8 F N
      intro k t loose9 mean9 mg9 mb9 news9 dp9 un9 gd9 cn9 cs9 a9 ccd9 cl9 outer9 A9 base9 h9 L9 m9 s9 Q9 E9 hk9 B9 F9 X9 N9 hR9 T9 hf9 hdp9 hun9 hQ9
      have mf := hR9 _ (List.Mem.head _)
      have mc := hR9 _ (.tail _ (List.Mem.head _))
      have mn := hR9 _ (.tail _ (.tail _ (.tail _ (List.Mem.head _))))
      have mw := hR9 _ (.tail _ (.tail _ (.tail _ (.tail _ (List.Mem.head _)))))
      have md := hR9 (Dw, LCg.lst vw) (by k_mem)
      have hk0 := mem_rangeKs hk9
      clear hR9
      refine wpAny_call ?_
      k_dflt (refine' kla_code ?k1 ?k2 ?k3 ?k4 ?k5 ?kA ?kF ?kK ?k6 ?k7 ?k8 ?k9 ?kB ?_ ?c2 ?c3 ?c4 ?c5; (case kA => exact rfl); (case kF => exact rfl); (case kK => assumption); (case k1 => exact B9); (case k2 => exact F9); (case k3 => exact X9); (case k4 => exact N9); (case k5 => exact T9); (case k6 => exact mf); (case k7 => exact codeRec_news N9 mc (by assumption) (by assumption)); (case k8 => ktr_room); (case k9 => exact rfl); (case c5 => decide); (case kB => exact locs rfl); (case c2 => exact rfl); (case c3 => exact rfl); (case c4 => exact rfl); k_whole)
      intro g' L' h' FG' F' N' B' X' T'
      (try dsimp only); (try k_lift B'); (try k_fold)
      clear mf mc
      k_steps
      all_goals exact hQ9 _ _ (by assumption) (by assumption)
    case hret =>
      intro U Dy Dn vy vn ny nn h8 tk8 hy8 hn8 F8 N8
      (rename _ = Data.fields _ => hd8)
      (rename _ = some (Value.str _ _) => hv8)
      clear F N
      k_steps
      all_goals (
        (rename Fr _ _ _ _ => FE)
        (rename News _ _ _ _ => nE)
        refine' hret U Dy Dn vy vn ny nn [_] _ _ _ hy8 hn8 ?tab ?nc ?n77 FE (News.sub nE ?ss)
        case ss => exact sub_part1
        case tab => exact .inr ⟨_, _, _, _, rfl, .head _, hd8, hv8⟩
        case nc => intro p hp; rw [List.mem_singleton.mp hp]; exact noCell_fields hd8
        case n77 => intro p hp; rw [List.mem_singleton.mp hp]; refine neN ?_; (try dsimp only); omega)
  · refine wpAny_call ?_
    k_dflt (refine' code_defC ?k1 ?k2 ?k3 ?k4 ?k5 ?kA ?kF ?kK ?k6 ?k7 ?k8 ?k9 ?kB ?kD ?_ ?c2 ?c3 ?c4; (case kA => exact rfl); (case kF => exact rfl); (case kK => assumption); (case k1 => k_asm); (case k2 => k_asm); (case k3 => k_asm); (case k4 => k_asm); (case k5 => k_asm); (case k6 => k_is); (case k7 => k_is); (case k8 => ktr_room); (case k9 => exact BindsTo.of_eq rfl); (case kB => exact rfl); (case kD => decide +kernel); (case c2 => exact rfl); (case c3 => exact rfl); (case c4 => exact rfl); k_whole)
    intro g' L' h' tk' cells' FG' F' N' Y' B' X' T' l1
    (try k_lt l1)
    k_cells Y'
    (try simp only [List.cons_append, List.nil_append] at N'); (try dsimp only); (try k_lift B'); (try k_fold)
    k_steps
    unfold Halt2
    (rename Fr _ _ _ _ => F8)
    (rename News _ _ _ _ => N8)
    (rename IntsAre _ _ => hI8)
    with_unfolding_all refine' split_spec w _ _ _ _ _ _ (fun k => partLt xs n k) ?hP hI8 ?hks ?hml _ _ _ _ ?hfo _ _ _ _ _ _ _ _ _ _ _ _ _ _ _ _ _ _ _ _ _ ?B ?F8 ?X N8 ?T ?hk ?hC ?hdp ?hun ?hret
    case F8 => k_asm
    case hks => rw [rangeKs_length]; omega
    case hml => k_mem
    case hfo => exact List.Mem.head _
    case B => k_asm
    case X => k_asm
    case T => k_asm
    case hk => rfl
    case hC => exact hC
    case hdp => ktr_room
    case hun => ktr_units
    case hP =>
      clear F8 F N
      intro k t loose9 mean9 mg9 mb9 news9 dp9 un9 gd9 cn9 cs9 a9 ccd9 cl9 outer9 A9 base9 h9 L9 m9 s9 Q9 E9 hk9 B9 F9 X9 N9 hR9 T9 hf9 hdp9 hun9 hQ9
      have mf := hR9 _ (List.Mem.head _)
      have mc := hR9 (c9, oc9) (by k_mem)
      have mn := hR9 _ (.tail _ (.tail _ (List.Mem.head _)))
      have mw := hR9 _ (.tail _ (.tail _ (.tail _ (List.Mem.head _))))
      have md := hR9 (Dw, LCg.lst vw) (by k_mem)
      have hk0 := mem_rangeKs hk9
      clear hR9
      refine wpAny_call ?_
      k_dflt (refine' kla_code ?k1 ?k2 ?k3 ?k4 ?k5 ?kA ?kF ?kK ?k6 ?k7 ?k8 ?k9 ?kB ?_ ?c2 ?c3 ?c4 ?c5; (case kA => exact rfl); (case kF => exact rfl); (case kK => assumption); (case k1 => exact B9); (case k2 => exact F9); (case k3 => exact X9); (case k4 => exact N9); (case k5 => exact T9); (case k6 => exact mf); (case k7 => exact codeRec_news N9 mc hd9 hv9); (case k8 => ktr_room); (case k9 => exact rfl); (case c5 => decide); (case kB => exact locs rfl); (case c2 => exact rfl); (case c3 => exact rfl); (case c4 => exact rfl); k_whole)
      intro g' L' h' FG' F' N' B' X' T'
      (try dsimp only); (try k_lift B'); (try k_fold)
      clear mf mc
      k_steps
      all_goals exact hQ9 _ _ (by assumption) (by assumption)
    case hret =>
      intro U Dy Dn vy vn ny nn h8 tk8 hy8 hn8 F8 N8
      clear F N
      k_steps
      all_goals (
        (rename Fr _ _ _ _ => FE)
        (rename News _ _ _ _ => nE)
        refine hret U Dy Dn vy vn ny nn [] _ _ _ hy8 hn8 (.inr ⟨c9, oc9, vs9, t9, rfl, hmc9, hd9, hv9⟩) (fun p hp => nomatch hp) (fun p hp => nomatch hp) FE (News.sub nE ?_)
        exact sub_part2)
end
section
theorem words17 : True := by
  w_top off
  k_with_none
  k_with "to iter" => (repeat' ((fail_if_success (with_reducible show wpAny _ _ (PySem.pyIter _) _ _ _)); first | (k_unfold; (try dsimp only)) | walk1 | (dsimp only; walk1)))
  k_with "InvEndN" => (refine halt ?_)
  k_with "to for" => (repeat' ((fail_if_success (with_reducible show wpAny _ _ (PySem.exec (PySem.Stmt.For _ _ _ _ _) _) _ _ _)); first | (k_unfold; (try dsimp only)) | walk1 | (dsimp only; walk1)))
  k_with "to while" => (repeat' ((fail_if_success (with_reducible show wpAny _ _ (PySem.exec (PySem.Stmt.While _ _ _ _) _) _ _ _)); first | (k_unfold; (try dsimp only)) | walk1 | (dsimp only; walk1)))
  k_with "KswEnd" => (refine halt ?_)
  k_with "subscriptTail Name Slice str ref" => ((with_reducible show wpAny _ _ (subscriptTail _ (PySem.Expr.Slice none (some (PySem.Expr.BoolOp _ _ _)) none _) _ _) _ _ _); (with_reducible rename Fr _ _ _ _ => Fkx); (with_reducible rename News _ _ _ _ => Nkx); refine slice_nn (s := ⟨_, _, _, _, _⟩) Fkx Nkx ?_; intro _ _ _ _ _)
  k_with "to ite" => (repeat' ((fail_if_success (with_reducible show @ite Prop (true = true) _ _ _)); (fail_if_success (with_reducible show @ite Prop (false = true) _ _ _)); first | (k_unfold; (try dsimp only)) | walk1 | (dsimp only; walk1)))
  trivial
theorem eqAt_ints {A : Around} {s : Shared} {a b : Addr} {vs us : List Value} {ks : List Int} (ha : s.heap.IsList a vs.toArray) (hb : s.heap.IsList b us.toArray) (hi : IntsAre vs ks) (hj : IntsAre us ks) (hu : A.units < cLine) : PySem.SeqAt.EqAt A s (.ref a) (.ref b) true := by
  by_cases h : a = b
  · subst h; exact PySem.SeqAt.EqAt.same _
  · refine PySem.SeqAt.EqAt.of_refs h ?_
    have hle : vs.toArray.size = us.toArray.size := by simp only [List.size_toArray]; rw [hi.length, hj.length]
    have := PySem.SeqAt.RcAt.lists (A := A) (s := s) (e := fun _ => true) ha hb hle hu (fun j h1 h2 => by
      have g1 : vs[j]? = some (vs.toArray[j]) := by simpa using h1
      have g2 : us[j]? = some (us.toArray[j]) := by simpa using h2
      obtain ⟨k, t, e1, e2⟩ := IntsAre.at hi j _ g1
      obtain ⟨k', t', e1', e2'⟩ := IntsAre.at hj j _ g2
      rw [e2] at e2'
      cases e2'
      rw [e1, e1']
      have := PySem.SeqAt.EqAt.int_int (A := A.in1) (s := s) k t k t'
      simpa using this)
    have key : ∀ b', b' = true → PySem.SeqAt.RcAt A s (.ref a) (.ref b) b' → PySem.SeqAt.RcAt A s (.ref a) (.ref b) true := fun b' hb h => hb ▸ h
    exact key _ (by simp) this
theorem parts_ne {prog : Program} {w : World} {A : Around} {E : Value → Shared → Prop} {s : Shared} {Q : Value → Shared → Prop} {h₀ : Heap} {L U V Dy Dn Ey En : Addr} {led : List (Addr × Obj)} {vy vn uy un : List Value} {ny nn : Nat} {ks ks' : List Int}
    (N : News h₀ L s.heap led) (hU : (U, ({ cls := .type "tuple", data := .seq #[.ref Dy, .ref Dn] } : Obj)) ∈ led) (hV : (V, ({ cls := .type "tuple", data := .seq #[.ref Ey, .ref En] } : Obj)) ∈ led)
    (h1 : (Dy, listOf (List.toArray vy) ny) ∈ led) (h2 : (Dn, listOf (List.toArray vn) nn) ∈ led) (h3 : (Ey, LCg.lst uy) ∈ led) (h4 : (En, LCg.lst un) ∈ led)
    (i1 : IntsAre vy ks) (i2 : IntsAre vn ks') (i3 : IntsAre uy ks) (i4 : IntsAre un ks') (hu : A.units + 64 < cLine) (h : Q (.bool false) s) : wpAny (model prog w) A (compareOp .NotEq (.ref U) (.ref V)) Q E s := by
  have hin : A.in1.units < cLine := by show A.units + 1 < cLine; omega
  have := PySem.SeqAt.RcNeAt.tuples (A := A) (s := s) (e := fun _ => true) (items := #[.ref Dy, .ref Dn]) (items2 := #[.ref Ey, .ref En]) ⟨_, (N _ hU).1, rfl, 0, rfl⟩ ⟨_, (N _ hV).1, rfl, 0, rfl⟩ (Nat.lt_of_le_of_lt (Nat.le_add_right _ _) hu) (fun j a b => by
    match j with
    | 0 => exact eqAt_ints (A := A.in1) ⟨_, (N _ h1).1, rfl, _, rfl⟩ ⟨_, (N _ h3).1, rfl, _, rfl⟩ i1 i3 hin
    | 1 => exact eqAt_ints (A := A.in1) ⟨_, (N _ h2).1, rfl, _, rfl⟩ ⟨_, (N _ h4).1, rfl, _, rfl⟩ i2 i4 hin
    | k + 2 => simp at a; omega)
  refine this prog w E Q ?_
  exact h
theorem foldl_filter (q : Int → Prop) [DecidablePred q] : ∀ (ks l : List Int), ks.foldl (fun l k => if q k then l ++ [k] else l) l = l ++ ks.filter (fun k => decide (q k))
  | [], l => by simp
  | k :: ks, l => by
    rw [List.foldl_cons, foldl_filter q ks]
    by_cases h : q k <;> simp [h]
inductive S15 (h₀ : Heap) (L : Addr) (s₀ : Shared) (vars : List (Str × Value)) (led0 : List (Addr × Obj)) (c1 c2 c3 c4 c5 c6 c7 c8 c9 : Obj → Prop) (s' : Shared) : Prop
  | mk (ps : Array Value) (led' : List (Addr × Obj)) (e1 : LSt h₀ L s₀ vars ((77, tabObj ps) :: led') c1 c2 c3 c4 c5 c6 c7 c8 c9 CA s') (e2 : TabOk ps led') (e3 : ∀ p ∈ led0, p ∈ led') (e4 : ∀ p ∈ led', NoCell p.2) (e5 : ∀ p ∈ led', p.1 ≠ 77) : S15 h₀ L s₀ vars led0 c1 c2 c3 c4 c5 c6 c7 c8 c9 s'
def for15 : PySem.Expr × PySem.Expr × List Stmt := match stm 15 with
  | [.For t i b _ _] => (t, i, b)
  | _ => (default, default, [])
def gtG (pl : List Int) (n : Int) (l : List Int) (k : Int) : List Int := if pl.getD k.toNat 0 > pl.getD n.toNat 0 then l ++ [k] else l
def leG (pl : List Int) (n : Int) (l : List Int) (k : Int) : List Int := if pl.getD k.toNat 0 ≤ pl.getD n.toNat 0 then l ++ [k] else l
theorem sub_tab {x : Addr × Obj} {cs led : List (Addr × Obj)} : ∀ p ∈ x :: (cs ++ led), p ∈ cs ++ x :: led := fun p hp => by
  rcases List.mem_cons.mp hp with rfl | hp
  · exact List.mem_append_right _ (.head _)
  · rcases List.mem_append.mp hp with h | h
    · exact List.mem_append_left _ h
    · exact List.mem_append_right _ (.tail _ h)
theorem noCell_tab {ps : Array Value} : NoCell (tabObj ps) := fun _ h => nomatch h
theorem cells_ne77 {h₀ h : Heap} {L : Addr} {o1 o2 o3 o4 o5 o6 o7 o8 o9 o10 : Obj} {ps : Array Value} {led : List (Addr × Obj)} (N : News h₀ L h (cells L o1 o2 o3 o4 o5 o6 o7 o8 o9 o10 ++ (77, tabObj ps) :: led))
    (h1 : CA o1) (h2 : CA o2) (h3 : CA o3) (h4 : CA o4) (h5 : CA o5) (h6 : CA o6) (h7 : CA o7) (h8 : CA o8) (h9 : CA o9) (h10 : CA o10) (h77 : ∀ p ∈ led, p.1 ≠ 77) : ∀ p ∈ cells L o1 o2 o3 o4 o5 o6 o7 o8 o9 o10 ++ led, p.1 ≠ 77 := fun p hp => by
  rcases List.mem_append.mp hp with hp | hp
  · have hoc : CA p.2 := by
      simp only [cells, List.mem_cons, List.not_mem_nil, or_false] at hp
      rcases hp with rfl | rfl | rfl | rfl | rfl | rfl | rfl | rfl | rfl | rfl <;> assumption
    exact (ne_cell (d := 77) (c := p.1) N (List.mem_append_right _ (.head _)) (List.mem_append_left _ hp) noCell_tab hoc).symm
  · exact h77 p hp
theorem TabOk.mono {ps : Array Value} {led led' : List (Addr × Obj)} (h : TabOk ps led) (hs : ∀ p ∈ led, p ∈ led') : TabOk ps led' := by
  rcases h with rfl | ⟨c', oc, vs, t, rfl, hm, hd, hv⟩
  · exact .inl rfl
  · exact .inr ⟨c', oc, vs, t, rfl, hs _ hm, hd, hv⟩
theorem TabOk.drop_cells {ps : Array Value} {new led : List (Addr × Obj)} {L : Addr} {o1 o2 o3 o4 o5 o6 o7 o8 o9 o10 : Obj} (h : TabOk ps (new ++ (cells L o1 o2 o3 o4 o5 o6 o7 o8 o9 o10 ++ led)))
    (h1 : CA o1) (h2 : CA o2) (h3 : CA o3) (h4 : CA o4) (h5 : CA o5) (h6 : CA o6) (h7 : CA o7) (h8 : CA o8) (h9 : CA o9) (h10 : CA o10) : TabOk ps (new ++ led) := by
  rcases h with rfl | ⟨c', oc, vs, t, rfl, hm, hd, hv⟩
  · exact .inl rfl
  · refine .inr ⟨c', oc, vs, t, rfl, ?_, hd, hv⟩
    rcases List.mem_append.mp hm with hm | hm
    · exact List.mem_append_left _ hm
    · rcases List.mem_append.mp hm with hm | hm
      · exfalso
        have hoc : CA oc := by
          simp only [cells, List.mem_cons, List.not_mem_nil, or_false, Prod.mk.injEq] at hm
          rcases hm with ⟨_, rfl⟩ | ⟨_, rfl⟩ | ⟨_, rfl⟩ | ⟨_, rfl⟩ | ⟨_, rfl⟩ | ⟨_, rfl⟩ | ⟨_, rfl⟩ | ⟨_, rfl⟩ | ⟨_, rfl⟩ | ⟨_, rfl⟩ <;> assumption
        obtain ⟨v, hv'⟩ := hoc
        rw [hd] at hv'
        cases hv'
      · exact List.mem_append_right _ hm
theorem sub_tab2 {x : Addr × Obj} {new cs led : List (Addr × Obj)} : ∀ p ∈ cs ++ x :: (new ++ led), p ∈ x :: (new ++ (cs ++ led)) := fun p hp => by
  simp only [List.mem_append, List.mem_cons] at hp ⊢
  rcases hp with h | h | h | h <;> simp [h]
def PlcOk (vp : List Value) (pl : List Int) : Prop := IntsAre vp pl
theorem ints_item {prog : Program} {w : World} {A : Around} {E : Value → Shared → Prop} {s : Shared} {h₀ : Heap} {L l : Addr} {led : List (Addr × Obj)} {vp : List Value} {pl : List Int} {n : Int} {u : Tok} {value slice : PySem.Expr} {Q : Value → Shared → Prop}
    (N : News h₀ L s.heap led) (hI : PlcOk vp pl) (hm : (l, LCg.lst vp) ∈ led) (h0 : 0 ≤ n) (h1 : n < pl.length) (hz : pl.length ≤ 1000) (h : ∀ t, Q (.int (pl.getD n.toNat 0) t) s)
    (hsb : subscripted slice false (.ref l) (.int n u) = operate [.ref l, .int n u] (getItem (.ref l) (.int n u)) := by with_unfolding_all rfl) :
    wpAny (model prog w) A (subscriptTail value slice (.ref l) (.int n u)) Q E s := by
  have hl : s.heap.IsList l vp.toArray := ⟨_, (N _ hm).1, rfl, _, rfl⟩
  have hn : n.toNat < pl.length := by omega
  have hg : vp[n.toNat]? ≠ none := by
    rw [Ne, List.getElem?_eq_none_iff, IntsAre.length hI]; omega
  obtain ⟨v, hv⟩ := Option.ne_none_iff_exists'.mp hg
  obtain ⟨k, t, e2, e1⟩ := IntsAre.at hI n.toNat v hv
  subst e2
  have e3 : pl.getD n.toNat 0 = k := by rw [List.getD_eq_getElem?_getD, e1]; rfl
  rw [← e3] at hv
  exact tail_any hl.typeIs slot_list_getitem.lookup (wpAny_getItem_list hl h0 (by omega) (by simpa using hv) (h t)) hsb
theorem gtG_pos {pl : List Int} {n k : Int} {l : List Int} (h : pl.getD k.toNat 0 > pl.getD n.toNat 0) : gtG pl n l k = l ++ [k] := if_pos h
theorem gtG_neg {pl : List Int} {n k : Int} {l : List Int} (h : ¬ pl.getD k.toNat 0 > pl.getD n.toNat 0) : gtG pl n l k = l := if_neg h
theorem leG_pos {pl : List Int} {n k : Int} {l : List Int} (h : pl.getD k.toNat 0 ≤ pl.getD n.toNat 0) : leG pl n l k = l ++ [k] := if_pos h
theorem leG_neg {pl : List Int} {n k : Int} {l : List Int} (h : ¬ pl.getD k.toNat 0 ≤ pl.getD n.toNat 0) : leG pl n l k = l := if_neg h
theorem kst_ck {u : Str → Option Value} {v : Value} {x y : Value} : ∀ p ∈ [(Str.ofString "costs", x), (Str.ofString "asked", y)], (fun q => if q = Str.ofString "k" then some v else kstB u [(Str.ofString "costs", x), (Str.ofString "asked", y)] q) p.1 = some p.2 := by
  intro p hp
  have e1 : (Str.ofString "costs" = Str.ofString "k") = False := by decide +kernel
  have e2 : (Str.ofString "asked" = Str.ofString "k") = False := by decide +kernel
  have e3 : (Str.ofString "asked" = Str.ofString "costs") = False := by decide +kernel
  rcases List.mem_cons.mp hp with rfl | hp
  · simp [kstB, e1]
  · rcases List.mem_cons.mp hp with rfl | hp
    · simp [kstB, e2, e3]
    · cases hp
theorem sub_six {a b c d e f : Addr × Obj} {R cs : List (Addr × Obj)} (h : ∀ p ∈ cs, p ∈ R) : ∀ p ∈ cs, p ∈ a :: b :: c :: d :: e :: f :: R := fun p hp => .tail _ (.tail _ (.tail _ (.tail _ (.tail _ (.tail _ (h p hp))))))
end
section
def IterObj (Da : Addr) (i : Nat) (o : Obj) : Prop := o.cls = .type "list_iterator" ∧ o.data = .fields #[.ref Da, .int (i : Int) 0]
theorem IterObj.noCell {Da : Addr} {i : Nat} {o : Obj} (h : IterObj Da i o) : NoCell o := fun v hv => by rw [h.2] at hv; cases hv
inductive Inv15 (h₀ : Heap) (L : Addr) (s₀ : Shared) (vars : List (Str × Value)) (led : List (Addr × Obj)) (c1 c2 c3 c4 c5 c6 c7 c8 c9 : Obj → Prop) (I Da : Addr) (i : Nat) (s : Shared) : Prop
  | mk (ps : Array Value) (tl : List (Addr × Obj)) (e1 : LSt h₀ L s₀ vars ((77, tabObj ps) :: (tl ++ led)) c1 c2 c3 c4 c5 c6 c7 c8 c9 CA s) (e2 : TabOk ps tl) (e3 : ∀ p ∈ tl, NoCell p.2 ∧ p.1 ≠ 77 ∧ p.1 ≠ I) (e4 : s.heap.IsListIter I Da i) : Inv15 h₀ L s₀ vars led c1 c2 c3 c4 c5 c6 c7 c8 c9 I Da i s
theorem inv15_next {h₀ : Heap} {L : Addr} {s₀ s : Shared} {vars : List (Str × Value)} {led tl : List (Addr × Obj)} {c1 c2 c3 c4 c5 c6 c7 c8 c9 : Obj → Prop} {I Da : Addr} {i : Nat} {ps : Array Value} {h' : Heap} {tk' : Nat}
    (P : LSt h₀ L s₀ vars ((77, tabObj ps) :: (tl ++ led)) c1 c2 c3 c4 c5 c6 c7 c8 c9 CA s) (e1 : ∀ o, c1 o → CA o) (e2 : ∀ o, c2 o → CA o) (e3 : ∀ o, c3 o → CA o) (e4 : ∀ o, c4 o → CA o) (e5 : ∀ o, c5 o → CA o) (e6 : ∀ o, c6 o → CA o) (e7 : ∀ o, c7 o → CA o) (e8 : ∀ o, c8 o → CA o) (e9 : ∀ o, c9 o → CA o)
    (htl : ∀ p ∈ tl, NoCell p.2 ∧ p.1 ≠ 77 ∧ p.1 ≠ I) (hI : s.heap.IsListIter I Da i) (hled : ∀ p ∈ led, p.1 ≠ I) (h77 : I ≠ 77) (hL : L ≠ I) (h0 : h₀.get? I = none)
    (hk : ∀ b o, b ∉ [I] → s.heap.get? b = some o → h'.get? b = some o) (hit : h'.IsListIter I Da (i + 1)) :
    ∃ oI, IterObj Da (i + 1) oI ∧ LSt h₀ L s₀ vars ((77, tabObj ps) :: ((I, oI) :: (tl ++ led))) c1 c2 c3 c4 c5 c6 c7 c8 c9 CA { s with heap := h', toks := tk' } := by
  obtain ⟨u, o1, o2, o3, o4, o5, o6, o7, o8, o9, o10, h, tk, rfl, F, N, d1, d2, d3, d4, d5, d6, d7, d8, d9, d10⟩ := P
  obtain ⟨oI, g1, g2, g3⟩ := hit
  obtain ⟨o, k1, k2, k3⟩ := hI
  have hcell : ∀ p ∈ cells L o1 o2 o3 o4 o5 o6 o7 o8 o9 o10, p.1 ≠ I := fun p hp e => by
    have hoc : CA p.2 := by
      simp only [cells, List.mem_cons, List.not_mem_nil, or_false] at hp
      rcases hp with rfl | rfl | rfl | rfl | rfl | rfl | rfl | rfl | rfl | rfl
      · exact e1 _ d1
      · exact e2 _ d2
      · exact e3 _ d3
      · exact e4 _ d4
      · exact e5 _ d5
      · exact e6 _ d6
      · exact e7 _ d7
      · exact e8 _ d8
      · exact e9 _ d9
      · exact d10
    have h1 := (N _ (List.mem_append_left _ hp)).1
    dsimp only at h1 k1
    rw [e, k1] at h1
    cases h1
    obtain ⟨v, hv⟩ := hoc
    rw [k3] at hv
    cases hv
  have off : ∀ p ∈ cells L o1 o2 o3 o4 o5 o6 o7 o8 o9 o10 ++ (77, tabObj ps) :: (tl ++ led), p.1 ≠ I := fun p hp => by
    rcases List.mem_append.mp hp with hp | hp
    · exact hcell p hp
    · rcases List.mem_cons.mp hp with rfl | hp
      · exact Ne.symm h77
      · rcases List.mem_append.mp hp with hp | hp
        · exact (htl p hp).2.2
        · exact hled p hp
  have N' := LCg.news_but N hk off
  refine ⟨oI, ⟨g2, g3⟩, u, o1, o2, o3, o4, o5, o6, o7, o8, o9, o10, h', tk', rfl, LCg.fr_but F hk hL h0, fun p hp => ?_, d1, d2, d3, d4, d5, d6, d7, d8, d9, d10⟩
  rcases List.mem_append.mp hp with hp | hp
  · exact N' p (List.mem_append_left _ hp)
  · rcases List.mem_cons.mp hp with rfl | hp
    · exact N' _ (List.mem_append_right _ (.head _))
    · rcases List.mem_cons.mp hp with rfl | hp
      · exact ⟨g1, Ne.symm hL, h0⟩
      · exact N' p (List.mem_append_right _ (.tail _ hp))
theorem inv15_of {h₀ : Heap} {L : Addr} {s₀ s : Shared} {vars : List (Str × Value)} {led tl : List (Addr × Obj)} {c1 c2 c3 c4 c5 c6 c7 c8 c9 : Obj → Prop} {I Da : Addr} {i : Nat} {oI : Obj}
    (H : S15 h₀ L s₀ vars ((I, oI) :: (tl ++ led)) c1 c2 c3 c4 c5 c6 c7 c8 c9 s) (hI : IterObj Da i oI) : Inv15 h₀ L s₀ vars led c1 c2 c3 c4 c5 c6 c7 c8 c9 I Da i s := by
  obtain ⟨ps, led', P, hps, hsub, hnc, hn77⟩ := H
  obtain ⟨u, o1, o2, o3, o4, o5, o6, o7, o8, o9, o10, h, tk, rfl, F, N, d1, d2, d3, d4, d5, d6, d7, d8, d9, d10⟩ := P
  have gI := (N _ (List.mem_append_right _ (.tail _ (hsub _ (.head _))))).1
  have hit : h.IsListIter I Da i := ⟨oI, gI, hI.1, hI.2⟩
  have mk : ∀ tl' : List (Addr × Obj), TabOk ps tl' → (∀ p ∈ tl', p ∈ led' ∧ p.1 ≠ I) → Inv15 h₀ L s₀ vars led c1 c2 c3 c4 c5 c6 c7 c8 c9 I Da i { s₀ with heap := h, toks := tk } := fun tl' ht hs =>
    ⟨ps, tl', ⟨u, o1, o2, o3, o4, o5, o6, o7, o8, o9, o10, h, tk, rfl, F, News.sub N (fun p hp => by
      rcases List.mem_append.mp hp with hp | hp
      · exact List.mem_append_left _ hp
      · refine List.mem_append_right _ ?_
        rcases List.mem_cons.mp hp with rfl | hp
        · exact .head _
        · rcases List.mem_append.mp hp with hp | hp
          · exact .tail _ (hs p hp).1
          · exact .tail _ (hsub p (.tail _ (List.mem_append_right _ hp)))), d1, d2, d3, d4, d5, d6, d7, d8, d9, d10⟩, ht, fun p hp => ⟨hnc p (hs p hp).1, hn77 p (hs p hp).1, (hs p hp).2⟩, hit⟩
  rcases hps with rfl | ⟨c', oc, vs, t, rfl, hm, hd, hv⟩
  · exact mk [] (.inl rfl) (fun p hp => nomatch hp)
  · refine mk [(c', oc)] (.inr ⟨c', oc, vs, t, rfl, .head _, hd, hv⟩) (fun p hp => ?_)
    rw [List.mem_singleton.mp hp]
    refine ⟨hm, fun e => ?_⟩
    have g := (N _ (List.mem_append_right _ (.tail _ hm))).1
    dsimp only at g e
    rw [e, gI] at g
    cases g
    rw [hI.2] at hd
    cases hd
    simp at hv
theorem inv15_done {h₀ : Heap} {L : Addr} {s₀ s : Shared} {vars : List (Str × Value)} {led tl : List (Addr × Obj)} {c1 c2 c3 c4 c5 c6 c7 c8 c9 : Obj → Prop} {I Da : Addr} {i : Nat} {ps : Array Value} {h' : Heap} {tk' : Nat}
    (P : LSt h₀ L s₀ vars ((77, tabObj ps) :: (tl ++ led)) c1 c2 c3 c4 c5 c6 c7 c8 c9 CA s) (e1 : ∀ o, c1 o → CA o) (e2 : ∀ o, c2 o → CA o) (e3 : ∀ o, c3 o → CA o) (e4 : ∀ o, c4 o → CA o) (e5 : ∀ o, c5 o → CA o) (e6 : ∀ o, c6 o → CA o) (e7 : ∀ o, c7 o → CA o) (e8 : ∀ o, c8 o → CA o) (e9 : ∀ o, c9 o → CA o)
    (htl : ∀ p ∈ tl, NoCell p.2 ∧ p.1 ≠ 77 ∧ p.1 ≠ I) (hI : s.heap.IsListIter I Da i) (hled : ∀ p ∈ led, p.1 ≠ I) (h77 : I ≠ 77) (hL : L ≠ I) (h0 : h₀.get? I = none)
    (hk : ∀ b o, b ∉ [I] → s.heap.get? b = some o → h'.get? b = some o) (hps : TabOk ps tl) (hnc : ∀ p ∈ led, NoCell p.2) (hn7 : ∀ p ∈ led, p.1 ≠ 77) :
    S15 h₀ L s₀ vars led c1 c2 c3 c4 c5 c6 c7 c8 c9 { s with heap := h', toks := tk' } := by
  obtain ⟨u, o1, o2, o3, o4, o5, o6, o7, o8, o9, o10, h, tk, rfl, F, N, d1, d2, d3, d4, d5, d6, d7, d8, d9, d10⟩ := P
  obtain ⟨o, k1, k2, k3⟩ := hI
  have hcell : ∀ p ∈ cells L o1 o2 o3 o4 o5 o6 o7 o8 o9 o10, p.1 ≠ I := fun p hp e => by
    have hoc : CA p.2 := by
      simp only [cells, List.mem_cons, List.not_mem_nil, or_false] at hp
      rcases hp with rfl | rfl | rfl | rfl | rfl | rfl | rfl | rfl | rfl | rfl
      · exact e1 _ d1
      · exact e2 _ d2
      · exact e3 _ d3
      · exact e4 _ d4
      · exact e5 _ d5
      · exact e6 _ d6
      · exact e7 _ d7
      · exact e8 _ d8
      · exact e9 _ d9
      · exact d10
    have h1 := (N _ (List.mem_append_left _ hp)).1
    dsimp only at h1 k1
    rw [e, k1] at h1
    cases h1
    obtain ⟨v, hv⟩ := hoc
    rw [k3] at hv
    cases hv
  have off : ∀ p ∈ cells L o1 o2 o3 o4 o5 o6 o7 o8 o9 o10 ++ (77, tabObj ps) :: (tl ++ led), p.1 ≠ I := fun p hp => by
    rcases List.mem_append.mp hp with hp | hp
    · exact hcell p hp
    · rcases List.mem_cons.mp hp with rfl | hp
      · exact Ne.symm h77
      · rcases List.mem_append.mp hp with hp | hp
        · exact (htl p hp).2.2
        · exact hled p hp
  have N' := LCg.news_but N hk off
  exact ⟨ps, tl ++ led, ⟨u, o1, o2, o3, o4, o5, o6, o7, o8, o9, o10, h', tk', rfl, LCg.fr_but F hk hL h0, N', d1, d2, d3, d4, d5, d6, d7, d8, d9, d10⟩, hps.mono fun p hp => List.mem_append_left _ hp, fun p hp => List.mem_append_right _ hp, fun p hp => (List.mem_append.mp hp).elim (fun h => (htl p h).1) (hnc p), fun p hp => (List.mem_append.mp hp).elim (fun h => (htl p h).2.1) (hn7 p)⟩
end
section
section
theorem words18 : True := by
  w_top off
  k_with_none
  k_with "to iter" => (repeat' ((fail_if_success (with_reducible show wpAny _ _ (PySem.pyIter _) _ _ _)); first | (k_unfold; (try dsimp only)) | walk1 | (dsimp only; walk1)))
  k_with "InvEndN" => (refine halt ?_)
  k_with "to for" => (repeat' ((fail_if_success (with_reducible show wpAny _ _ (PySem.exec (PySem.Stmt.For _ _ _ _ _) _) _ _ _)); first | (k_unfold; (try dsimp only)) | walk1 | (dsimp only; walk1)))
  k_with "to while" => (repeat' ((fail_if_success (with_reducible show wpAny _ _ (PySem.exec (PySem.Stmt.While _ _ _ _) _) _ _ _)); first | (k_unfold; (try dsimp only)) | walk1 | (dsimp only; walk1)))
  k_with "KswEnd" => (refine halt ?_)
  k_with "subscriptTail Name Slice str ref" => ((with_reducible show wpAny _ _ (subscriptTail _ (PySem.Expr.Slice none (some (PySem.Expr.BoolOp _ _ _)) none _) _ _) _ _ _); (with_reducible rename Fr _ _ _ _ => Fkx); (with_reducible rename News _ _ _ _ => Nkx); refine slice_nn (s := ⟨_, _, _, _, _⟩) Fkx Nkx ?_; intro _ _ _ _ _)
  k_with "to ite" => (repeat' ((fail_if_success (with_reducible show @ite Prop (true = true) _ _ _)); (fail_if_success (with_reducible show @ite Prop (false = true) _ _ _)); first | (k_unfold; (try dsimp only)) | walk1 | (dsimp only; walk1)))
  k_with "to compsrc" => (repeat' ((fail_if_success (with_reducible show LCg.CompSrc _ _ _ _ _ _ _ _ _ _ _ _ _ _)); first | (k_unfold; (try dsimp only)) | walk1 | (dsimp only; walk1)))
  k_with "KCtEl" => (refine halt ?_)
  k_with "call builtin:str.join" => (k_here; (with_reducible show wpAny _ _ (PySem.call (Value.builtin "str.join") [Value.str _ _, Value.ref _]) _ _ _); (refine join_led (by k_asm) (List.Mem.head _) (by assumption) (by assumption) ?_); intro tkx kkx; (try dsimp only))
  k_with "call ref" => ((with_reducible show wpAny _ _ (PySem.call (Value.ref 82) _) _ _ _); refine halt2 ?_)
  k_with "CompSrcT" => (refine halt2 ?_)
  k_with "KCiEl" => (refine halt ?_)
  k_with "KCiNo" => (refine halt ?_)
  k_with "compareOp NotEq ref ref" => (refine halt2 ?_)
  k_with "subscriptTail" => (k_here; (with_reducible show wpAny _ _ (subscriptTail _ _ (Value.ref _) (Value.int _ _)) _ _ _); (rename PlcOk _ _ => hS9); (with_unfolding_all refine' ints_item ?_ hS9 ?_ ?_ ?_ ?_ ?_; (repeat ((fail_if_success (refine (show (_ : Prop) from ?_))); rotate_left 1)); (· (k_asm)); (· (k_mem)); (· (first | assumption | omega)); (· (first | assumption | omega)); (· (first | assumption | omega)); k_whole); intro tkx)
  trivial
section
variable {w : World} {loose : List Str} {mean : ExcName → Option Value} {mg mb : Str → Option Value} {h₀ : Heap} {L fa : Addr} {cd : Value} {s₀ s : Shared} {E E₂ : Value → Shared → Prop} {led : List (Addr × Obj)}
theorem law_t15 {Dp Dt Dw Dc Da Ti : Addr} {start leap step size first a b : Int} {ta tb : Tok} {word : PySem.Str} {vw vp : List Value} {xs : List Str} {pl : List Int} {ps : Array Value}
    (B : Below callerA h₀ [] h₀) (X : (hd.heap_39 w.params).In h₀) (T : Top topProg loose mean mg mb h₀) (hled : ∀ p ∈ led, NoCell p.2) (h77 : ∀ p ∈ led, p.1 ≠ 77) (hC : CodeHd h₀ 81 77) (hps : TabOk ps led)
    (hz : 2 ≤ size ∧ size ≤ 16) (hDw : (Dw, LCg.lst vw) ∈ led) (hS : StrsAre vw xs) (hxl : (xs.length : Int) = size) (hDp : (Dp, LCg.lst vp) ∈ led) (hpi : PlcOk vp pl) (hpl : (pl.length : Int) = size + 1)
    (hgt : (rangeKs 0 (size - 0).toNat).filter (fun k => partLt xs a k) = (rangeKs 0 (size - 0).toNat).filter (fun k => decide (pl.getD k.toNat 0 > pl.getD a.toNat 0))) (hle : (rangeKs 0 (size - 0).toNat).filter (fun k => !partLt xs a k) = (rangeKs 0 (size - 0).toNat).filter (fun k => decide (pl.getD k.toNat 0 ≤ pl.getD a.toNat 0)))
    (hTi : (Ti, ({ cls := .type "tuple", data := .seq #[.int a ta, .int b tb] } : Obj)) ∈ led) (ha : 0 ≤ a ∧ a < size)
    (P : LSt h₀ L s₀ [(Str.ofString "costs", .ref Dc), (Str.ofString "asked", .ref Da)] ((77, tabObj ps) :: led) (CI start) (CI leap) (CI step) (CI size) (CR Dp) (CR Dt) (CS word) (CI first) (CR Dw) CA s) :
    wpAny (model PG w) (lawA L fa cd) (assign for15.1 (lawEnv L fa cd) (.ref Ti)) (fun _ s₂ => wpAny (model PG w) (lawA L fa cd) (execs for15.2.2 (lawEnv L fa cd)) (fun f s₃ => f = .next ∧ Halt (S15 h₀ L s₀ [(Str.ofString "costs", .ref Dc), (Str.ofString "asked", .ref Da)] led (CI start) (CI leap) (CI step) (CI size) (CR Dp) (CR Dt) (CS word) (CI first) (CR Dw) s₃)) E₂ s₂) E s := by
  refine gen_post2 fun Q9 hQ9 => ?_
  have hled7 : ∀ p ∈ (77, tabObj ps) :: led, NoCell p.2 := fun p hp => by
    rcases List.mem_cons.mp hp with rfl | hp
    · exact noCell_tab
    · exact hled p hp
  obtain ⟨u, o1, o2, o3, o4, o5, o6, o7, o8, o9, o10, h, tk, rfl, F, N, d1, d2, d3, d4, d5, d6, d7, d8, d9, d10⟩ := P
  obtain ⟨t1, d1⟩ := d1
  obtain ⟨t2, d2⟩ := d2
  obtain ⟨t3, d3⟩ := d3
  obtain ⟨t4, d4⟩ := d4
  unfold CR at d5
  unfold CR at d6
  obtain ⟨t7, d7⟩ := d7
  obtain ⟨t8, d8⟩ := d8
  unfold CR at d9
  obtain ⟨t10, d10⟩ := d10
  unfold cells at N
  simp only [List.cons_append, List.nil_append] at N
  have mTi : (Ti, ({ cls := .type "tuple", data := .seq #[.int a ta, .int b tb] } : Obj)) ∈ (77, tabObj ps) :: led := .tail _ hTi
  dsimp only [for15, stm, lawEnv, lawA, lawDef, PySem.Challenge.pw_pe0126_01, List.drop, List.take]
  k_steps
  (rename Fr _ _ _ _ => F9)
  (rename News _ _ _ _ => N9)
  refine store_n (s₀ := s₀) (led := (77, tabObj ps) :: led) (vars := [(Str.ofString "costs", .ref Dc), (Str.ofString "asked", .ref Da)]) (c1 := CI start) (c2 := CI leap) (c3 := CI step) (c4 := CI size) (c5 := CR Dp) (c6 := CR Dt) (c7 := CS word) (c8 := CI first) (c9 := CR Dw) (c10 := CA) (CI a) ⟨_, o1, o2, o3, o4, o5, o6, o7, o8, o9, o10, _, _, rfl, F9, News.sub N9 (fun p hp => hp), ⟨_, d1⟩, ⟨_, d2⟩, ⟨_, d3⟩, ⟨_, d4⟩, d5, d6, ⟨_, d7⟩, ⟨_, d8⟩, d9, ⟨_, d10⟩⟩ (fun _ h => h) (hled7) (fun o h => ⟨_, h⟩) (fun s' P' => ?_)
  (try clear F9)
  (try clear N9)
  (try clear N)
  (try clear F)
  clear d1 d2 d3 d4 d5 d6 d7 d8 d9 d10
  obtain ⟨u, o1, o2, o3, o4, o5, o6, o7, o8, o9, o10, h, tk, rfl, F, N, d1, d2, d3, d4, d5, d6, d7, d8, d9, d10⟩ := P'
  obtain ⟨t1, d1⟩ := d1
  obtain ⟨t2, d2⟩ := d2
  obtain ⟨t3, d3⟩ := d3
  obtain ⟨t4, d4⟩ := d4
  unfold CR at d5
  unfold CR at d6
  obtain ⟨t7, d7⟩ := d7
  obtain ⟨t8, d8⟩ := d8
  unfold CR at d9
  obtain ⟨t10, d10⟩ := d10
  have hnt := cells_ne77 N ⟨_, d1⟩ ⟨_, d2⟩ ⟨_, d3⟩ ⟨_, d4⟩ ⟨_, d5⟩ ⟨_, d6⟩ ⟨_, d7⟩ ⟨_, d8⟩ ⟨_, d9⟩ ⟨_, d10⟩ h77
  unfold cells at N
  simp only [List.cons_append, List.nil_append] at N
  k_steps
  unfold Halt2
  (rename Fr _ _ _ _ => F8)
  (rename News _ _ _ _ => N8)
  with_unfolding_all refine' parted_spec w Dw vw xs a _ _ _ _ _ (cells L o1 o2 o3 o4 o5 o6 o7 o8 o9 o10 ++ led) ps _ _ _ _ _ _ _ _ _ _ _ _ _ _ _ _ _ ?B ?F8 ?X (News.sub N8 sub_tab) ?T ?hk ?hC ?hps ?hnt ?hw hS ?hxl ?hn ?hdp ?hun ?hret
  case F8 => k_asm
  case B => k_asm
  case X => k_asm
  case T => k_asm
  case hk => rfl
  case hC => exact hC
  case hps => exact hps.mono (fun p hp => List.mem_append_right _ hp)
  case hnt => exact hnt
  case hw => exact List.mem_append_right _ hDw
  case hxl => omega
  case hn => omega
  case hdp => ktr_room
  case hun => ktr_units
  case hret =>
    intro U Dy Dn vy vn ny nn new ps' h8 tk8 hy8 hn8 hps8 hnc8 hn78 F7 N7
    rw [hxl, hgt] at hy8
    rw [hxl, hle] at hn8
    clear F8 N8 hgt hle
    have hsub : ∀ p ∈ cells L o1 o2 o3 o4 o5 o6 o7 o8 o9 o10 ++ (77, tabObj ps') :: (new ++ led), p ∈ (77, tabObj ps') :: (new ++ (cells L o1 o2 o3 o4 o5 o6 o7 o8 o9 o10 ++ led)) := sub_tab2
    have m1 : (L + 1, o1) ∈ (77, tabObj ps') :: (new ++ (cells L o1 o2 o3 o4 o5 o6 o7 o8 o9 o10 ++ led)) := hsub _ (by unfold cells; simp only [List.cons_append, List.nil_append]; k_mem)
    have m2 : (L + 1 + 1, o2) ∈ (77, tabObj ps') :: (new ++ (cells L o1 o2 o3 o4 o5 o6 o7 o8 o9 o10 ++ led)) := hsub _ (by unfold cells; simp only [List.cons_append, List.nil_append]; k_mem)
    have m3 : (L + 1 + 1 + 1, o3) ∈ (77, tabObj ps') :: (new ++ (cells L o1 o2 o3 o4 o5 o6 o7 o8 o9 o10 ++ led)) := hsub _ (by unfold cells; simp only [List.cons_append, List.nil_append]; k_mem)
    have m4 : (L + 1 + 1 + 1 + 1, o4) ∈ (77, tabObj ps') :: (new ++ (cells L o1 o2 o3 o4 o5 o6 o7 o8 o9 o10 ++ led)) := hsub _ (by unfold cells; simp only [List.cons_append, List.nil_append]; k_mem)
    have m5 : (L + 1 + 1 + 1 + 1 + 1, o5) ∈ (77, tabObj ps') :: (new ++ (cells L o1 o2 o3 o4 o5 o6 o7 o8 o9 o10 ++ led)) := hsub _ (by unfold cells; simp only [List.cons_append, List.nil_append]; k_mem)
    have m9 : (L + 1 + 1 + 1 + 1 + 1 + 1 + 1 + 1 + 1, o9) ∈ (77, tabObj ps') :: (new ++ (cells L o1 o2 o3 o4 o5 o6 o7 o8 o9 o10 ++ led)) := hsub _ (by unfold cells; simp only [List.cons_append, List.nil_append]; k_mem)
    have m10 : (L + 1 + 1 + 1 + 1 + 1 + 1 + 1 + 1 + 1 + 1, o10) ∈ (77, tabObj ps') :: (new ++ (cells L o1 o2 o3 o4 o5 o6 o7 o8 o9 o10 ++ led)) := hsub _ (by unfold cells; simp only [List.cons_append, List.nil_append]; k_mem)
    have m11 : (Dp, LCg.lst vp) ∈ (77, tabObj ps') :: (new ++ (cells L o1 o2 o3 o4 o5 o6 o7 o8 o9 o10 ++ led)) := .tail _ (List.mem_append_right _ (List.mem_append_right _ hDp))
    have hps9 : TabOk ps' (new ++ led) := hps8.drop_cells ⟨_, d1⟩ ⟨_, d2⟩ ⟨_, d3⟩ ⟨_, d4⟩ ⟨_, d5⟩ ⟨_, d6⟩ ⟨_, d7⟩ ⟨_, d8⟩ ⟨_, d9⟩ ⟨_, d10⟩
    clear hps8 hps
    generalize (77, tabObj ps') :: (new ++ (cells L o1 o2 o3 o4 o5 o6 o7 o8 o9 o10 ++ led)) = R9 at N7 hsub m1 m2 m3 m4 m5 m9 m10 m11
    k_steps
    unfold Halt2
    (rename IsRange _ _ _ _ _ _ _ _ => hrA)
    with_unfolding_all refine LCt.CompSrcT.range (by rfl) (by k_asm) (by k_asm) hrA (small_one (by omega) (by omega) (by omega) (by omega)) (rangeSize_nat _ _) (by rw [PySem.sizeLine_eq]; omega) ?_
    intro gA
    refine' kci_range (gtG pl a) (fun k' t' I' oI' C' oC' D' m' ys' l' h' tk' E' hlo' hhi' hI' hC' hx' F' N' off' ne' hMark' => ?tA) ?fA ?gA
    case gA =>
      intro l k
      unfold gtG
      split <;> simp
    case tA =>
      have hk1 : k' < (pl.length : Int) := by clear off' ne'; omega
      have off0 := off'
      simp only [LCg.Off3, and_true] at off'
      k_steps
      all_goals first | (exfalso; clear off0 off' ne'; omega) | (refine LCg.CompEnd.intro (by assumption) (by assumption) _ (fun p hp => hp) off0 (by first | exact trivial | lcg_src | assumption) (kci_el (gtG_pos (by assumption)) rfl rfl)) | (refine LCg.CompEnd.intro (by assumption) (by assumption) _ (fun p hp => hp) off0 (by first | exact trivial | lcg_src | assumption) (kci_no (gtG_neg (by assumption)) rfl))
    case fA =>
    unfold KPfDone
    intro ysA hIA _
    have hJA := (foldl_filter _ _ _ : (rangeKs 0 (size - 0).toNat).foldl (gtG pl a) [] = _) ▸ hIA
    simp only [List.nil_append] at hJA
    clear hIA
    k_steps
    unfold Halt2
    (rename IsRange _ _ _ _ _ _ _ _ => hrB)
    with_unfolding_all refine LCt.CompSrcT.range (by rfl) (by k_asm) (by k_asm) hrB (small_one (by omega) (by omega) (by omega) (by omega)) (rangeSize_nat _ _) (by rw [PySem.sizeLine_eq]; omega) ?_
    intro gB
    refine' kci_range (leG pl a) (fun k' t' I' oI' C' oC' D' m' ys' l' h' tk' E' hlo' hhi' hI' hC' hx' F' N' off' ne' hMark' => ?tB) ?fB ?gB
    case gB =>
      intro l k
      unfold leG
      split <;> simp
    case tB =>
      have hk1 : k' < (pl.length : Int) := by clear off' ne'; omega
      have off0 := off'
      simp only [LCg.Off3, and_true] at off'
      k_steps
      all_goals first | (exfalso; clear off0 off' ne'; omega) | (refine LCg.CompEnd.intro (by assumption) (by assumption) _ (fun p hp => hp) off0 (by first | exact trivial | lcg_src | assumption) (kci_el (leG_pos (by assumption)) rfl rfl)) | (refine LCg.CompEnd.intro (by assumption) (by assumption) _ (fun p hp => hp) off0 (by first | exact trivial | lcg_src | assumption) (kci_no (leG_neg (by assumption)) rfl))
    case fB =>
    unfold KPfDone
    intro ysB hIB _
    have hJB := (foldl_filter _ _ _ : (rangeKs 0 (size - 0).toNat).foldl (leG pl a) [] = _) ▸ hIB
    simp only [List.nil_append] at hJB
    clear hIB
    k_steps
    unfold Halt2
    (rename News _ _ _ _ => N6)
    refine parts_ne N6 (by k_mem) (.head _) (by k_mem) (by k_mem) (by k_mem) (by k_mem) hy8 hn8 hJA hJB (by ke_room) ?_
    k_steps
    (rename Fr _ _ _ _ => F5)
    (rename News _ _ _ _ => N5)
    have F4 := fr_kst (ps := [(Str.ofString "costs", .ref Dc), (Str.ofString "asked", .ref Da)]) F5 kst_ck
    refine hQ9 _ _ ⟨rfl, ?_⟩
    unfold Halt
    exact ⟨ps', new ++ led, ⟨_, o1, o2, o3, o4, o5, o6, o7, o8, o9, o10, _, _, rfl, F4, News.sub N5 (sub_six hsub), ⟨_, d1⟩, ⟨_, d2⟩, ⟨_, d3⟩, ⟨_, d4⟩, d5, d6, ⟨_, d7⟩, ⟨_, d8⟩, d9, ⟨_, d10⟩⟩, hps9, fun p hp => List.mem_append_right _ hp, fun p hp => (List.mem_append.mp hp).elim (hnc8 p) (hled p), fun p hp => (List.mem_append.mp hp).elim (hn78 p) (h77 p)⟩
end
end
section
theorem words19 : True := by
  w_top off
  k_with_none
  k_with "to iter" => (repeat' ((fail_if_success (with_reducible show wpAny _ _ (PySem.pyIter _) _ _ _)); first | (k_unfold; (try dsimp only)) | walk1 | (dsimp only; walk1)))
  k_with "InvEndN" => (refine halt ?_)
  k_with "to for" => (repeat' ((fail_if_success (with_reducible show wpAny _ _ (PySem.exec (PySem.Stmt.For _ _ _ _ _) _) _ _ _)); first | (k_unfold; (try dsimp only)) | walk1 | (dsimp only; walk1)))
  k_with "to while" => (repeat' ((fail_if_success (with_reducible show wpAny _ _ (PySem.exec (PySem.Stmt.While _ _ _ _) _) _ _ _)); first | (k_unfold; (try dsimp only)) | walk1 | (dsimp only; walk1)))
  k_with "KswEnd" => (refine halt ?_)
  k_with "subscriptTail Name Slice str ref" => ((with_reducible show wpAny _ _ (subscriptTail _ (PySem.Expr.Slice none (some (PySem.Expr.BoolOp _ _ _)) none _) _ _) _ _ _); (with_reducible rename Fr _ _ _ _ => Fkx); (with_reducible rename News _ _ _ _ => Nkx); refine slice_nn (s := ⟨_, _, _, _, _⟩) Fkx Nkx ?_; intro _ _ _ _ _)
  k_with "to ite" => (repeat' ((fail_if_success (with_reducible show @ite Prop (true = true) _ _ _)); (fail_if_success (with_reducible show @ite Prop (false = true) _ _ _)); first | (k_unfold; (try dsimp only)) | walk1 | (dsimp only; walk1)))
  k_with "to compsrc" => (repeat' ((fail_if_success (with_reducible show LCg.CompSrc _ _ _ _ _ _ _ _ _ _ _ _ _ _)); first | (k_unfold; (try dsimp only)) | walk1 | (dsimp only; walk1)))
  k_with "KCtEl" => (refine halt ?_)
  k_with "call builtin:str.join" => (k_here; (with_reducible show wpAny _ _ (PySem.call (Value.builtin "str.join") [Value.str _ _, Value.ref _]) _ _ _); (refine join_led (by k_asm) (List.Mem.head _) (by assumption) (by assumption) ?_); intro tkx kkx; (try dsimp only))
  trivial
section
variable {w : World} {loose : List Str} {mean : ExcName → Option Value} {mg mb : Str → Option Value} {h₀ : Heap} {L fa : Addr} {cd : Value} {s₀ s : Shared} {E : Value → Shared → Prop} {led : List (Addr × Obj)}
theorem law_s15 {Dp Dt Dw Dc Da : Addr} {start leap step size first : Int} {word : PySem.Str} {vw vp ys : List Value} {xs : List Str} {pl ks : List Int} {tl : List (Addr × Obj)} {ps : Array Value}
    (B : Below callerA h₀ [] h₀) (X : (hd.heap_39 w.params).In h₀) (T : Top topProg loose mean mg mb h₀) (hled : ∀ p ∈ led, NoCell p.2) (h77 : ∀ p ∈ led, p.1 ≠ 77) (hC : CodeHd h₀ 81 77) (hps : TabOk ps led)
    (hz : 2 ≤ size ∧ size ≤ 16) (hDw : (Dw, LCg.lst vw) ∈ led) (hS : StrsAre vw xs) (hxl : (xs.length : Int) = size) (hDp : (Dp, LCg.lst vp) ∈ led) (hpi : PlcOk vp pl) (hpl : (pl.length : Int) = size + 1)
    (hgt : ∀ a : Int, 0 ≤ a → a < size → (rangeKs 0 (size - 0).toNat).filter (fun k => partLt xs a k) = (rangeKs 0 (size - 0).toNat).filter (fun k => decide (pl.getD k.toNat 0 > pl.getD a.toNat 0)))
    (hle : ∀ a : Int, 0 ≤ a → a < size → (rangeKs 0 (size - 0).toNat).filter (fun k => !partLt xs a k) = (rangeKs 0 (size - 0).toNat).filter (fun k => decide (pl.getD k.toNat 0 ≤ pl.getD a.toNat 0)))
    (hTa : TL (askT size) ks ys tl) (hDa : (Da, LCg.lst ys) ∈ led) (htl : ∀ p ∈ tl, p ∈ led)
    (P : LSt h₀ L s₀ [(Str.ofString "costs", .ref Dc), (Str.ofString "asked", .ref Da)] ((77, tabObj ps) :: led) (CI start) (CI leap) (CI step) (CI size) (CR Dp) (CR Dt) (CS word) (CI first) (CR Dw) CA s) :
    wpAny (model PG w) (lawA L fa cd) (execs (stm 15) (lawEnv L fa cd)) (fun f s' => f = .next ∧ Halt (S15 h₀ L s₀ [(Str.ofString "costs", .ref Dc), (Str.ofString "asked", .ref Da)] led (CI start) (CI leap) (CI step) (CI size) (CR Dp) (CR Dt) (CS word) (CI first) (CR Dw) s')) E s := by
  refine gen_post fun Q9 hQ9 => ?_
  obtain ⟨pos, hst⟩ : ∃ p, stm 15 = [.For for15.1 for15.2.1 for15.2.2 [] p] := ⟨_, rfl⟩
  rw [hst]
  refine wpAny_execs_cons (wpAny_For ?_)
  obtain ⟨u, o1, o2, o3, o4, o5, o6, o7, o8, o9, o10, h, tk, rfl, F, N, d1, d2, d3, d4, d5, d6, d7, d8, d9, d10⟩ := P
  have hev : for15.2.1 = .Name (Str.ofString "asked") (for15.2.1).pos := rfl
  rw [hev]
  refine wpAny_Name (wpAny_loadName_local (m := kstB u [(Str.ofString "costs", .ref Dc), (Str.ofString "asked", .ref Da)]) (v := .ref Da) rfl rfl F.ns rfl ?_) rfl
  have mDa : (Da, LCg.lst ys) ∈ cells L o1 o2 o3 o4 o5 o6 o7 o8 o9 o10 ++ (77, tabObj ps) :: led := List.mem_append_right _ (.tail _ hDa)
  have hlst : h.IsList Da ys.toArray := ⟨_, (N _ mDa).1, rfl, _, rfl⟩
  refine wpAny_pyIter_list hlst ?_
  have hlt : ∀ p ∈ cells L o1 o2 o3 o4 o5 o6 o7 o8 o9 o10 ++ (77, tabObj ps) :: led, p.1 < h.objs.size := fun p hp => Heap.lt_size (N p hp).1
  have hI0 : h₀.get? h.objs.size = none := ktu_new F (Nat.le_refl _)
  have hIL : L ≠ h.objs.size := Nat.ne_of_lt F.ns.lt
  have hI77 : h.objs.size ≠ 77 := Nat.ne_of_gt (hlt (77, tabObj ps) (List.mem_append_right _ (.head _)))
  have hIled : ∀ p ∈ led, p.1 ≠ h.objs.size := fun p hp => Nat.ne_of_lt (hlt p (List.mem_append_right _ (.tail _ hp)))
  have hDaI : Da ≠ h.objs.size := hIled _ hDa
  have hbase : Inv15 h₀ L s₀ [(Str.ofString "costs", .ref Dc), (Str.ofString "asked", .ref Da)] led (CI start) (CI leap) (CI step) (CI size) (CR Dp) (CR Dt) (CS word) (CI first) (CR Dw) h.objs.size Da 0 { s₀ with heap := h.push { cls := .type "list_iterator", data := .fields #[.ref Da, .int 0 0] }, toks := tk } := by
    refine inv15_of (led := led) (tl := []) (oI := { cls := .type "list_iterator", data := .fields #[.ref Da, .int 0 0] }) ⟨ps, (h.objs.size, { cls := .type "list_iterator", data := .fields #[.ref Da, .int 0 0] }) :: led, ⟨u, o1, o2, o3, o4, o5, o6, o7, o8, o9, o10, _, _, rfl, F.keeps fun b o e => Heap.get?_push_of_some _ e, fun p hp => ?_, d1, d2, d3, d4, d5, d6, d7, d8, d9, d10⟩, hps.mono fun p hp => .tail _ hp, fun p hp => hp, fun p hp => ?_, fun p hp => ?_⟩ ⟨rfl, rfl⟩
    · have hpush : (h.push { cls := .type "list_iterator", data := .fields #[.ref Da, .int 0 0] }).get? h.objs.size = some { cls := .type "list_iterator", data := .fields #[.ref Da, .int 0 0] } := Heap.get?_push_size _ rfl
      have old : ∀ q ∈ cells L o1 o2 o3 o4 o5 o6 o7 o8 o9 o10 ++ (77, tabObj ps) :: led, (h.push { cls := .type "list_iterator", data := .fields #[.ref Da, .int 0 0] }).get? q.1 = some q.2 ∧ q.1 ≠ L ∧ h₀.get? q.1 = none := fun q hq => ⟨Heap.get?_push_of_some _ (N q hq).1, (N q hq).2⟩
      rcases List.mem_append.mp hp with hp | hp
      · exact old p (List.mem_append_left _ hp)
      · rcases List.mem_cons.mp hp with rfl | hp
        · exact old _ (List.mem_append_right _ (.head _))
        · rcases List.mem_cons.mp hp with rfl | hp
          · exact ⟨hpush, Ne.symm hIL, hI0⟩
          · exact old p (List.mem_append_right _ (.tail _ hp))
    · rcases List.mem_cons.mp hp with rfl | hp
      · exact IterObj.noCell (Da := Da) (i := 0) ⟨rfl, rfl⟩
      · exact hled p hp
    · rcases List.mem_cons.mp hp with rfl | hp
      · exact hI77
      · exact h77 p hp
  generalize h.objs.size = I at hbase hI0 hIL hI77 hIled hDaI
  generalize h.push _ = h1 at hbase
  clear hlt mDa hlst F N d1 d2 d3 d4 d5 d6 d7 d8 d9 d10
  have hasz : ys.toArray.size = ys.length := by simp
  refine codeAny_forLoop_any (fun n s' => ∃ i, n = ys.length - i ∧ i ≤ ys.length ∧ Inv15 h₀ L s₀ [(Str.ofString "costs", .ref Dc), (Str.ofString "asked", .ref Da)] led (CI start) (CI leap) (CI step) (CI size) (CR Dp) (CR Dt) (CS word) (CI first) (CR Dw) I Da i s') ?_ ys.length ⟨0, rfl, Nat.zero_le _, hbase⟩
  rintro n s' ⟨i, rfl, hi, ps1, tl1, P1, hps1, htl1, hit⟩
  have hl1 : s'.heap.IsList Da ys.toArray := by
    obtain ⟨u, o1, o2, o3, o4, o5, o6, o7, o8, o9, o10, h, tk, rfl, F, N, _⟩ := P1
    exact ⟨_, (N (Da, LCg.lst ys) (List.mem_append_right _ (.tail _ (List.mem_append_right _ hDa)))).1, rfl, _, rfl⟩
  have W := Walks.list (prog := PG) (w := w) (A := lawA L fa cd) rfl I Da hDaI ys.toArray
  by_cases hlt : i < ys.length
  · refine W.item i _ _ _ (by rw [hasz]; exact hlt) ⟨hit, hl1⟩ fun v h2 tk2 hv st2 hk2 => ?_
    obtain ⟨k, Ti, t1, t2, hk, rfl, hTi⟩ := tl_pairs hTa htl i v hv
    obtain ⟨oI, hoI, P2⟩ := inv15_next (tk' := tk2) P1 (fun _ h => h.any) (fun _ h => h.any) (fun _ h => h.any) (fun _ h => h.any) (fun _ h => CR.any h) (fun _ h => CR.any h) (fun _ h => h.any) (fun _ h => h.any) (fun _ h => CR.any h) htl1 hit hIled hI77 hIL hI0 hk2 st2.1
    have hb := fmodb k size (by omega)
    have sb : ∀ p ∈ led, p ∈ (I, oI) :: (tl1 ++ led) := fun p hp => .tail _ (List.mem_append_right _ hp)
    refine wpAny_letOwnedTupleGo_listiter (s := { s' with heap := h2, toks := tk2 }) st2.1 ?_
    refine wpAny_mono (law_t15 (fa := fa) (cd := cd) (w := w) B X T (led := (I, oI) :: (tl1 ++ led)) ?hn1 ?hn2 hC ((hps1.mono fun p hp => .tail _ (List.mem_append_left _ hp))) hz (sb _ hDw) hS hxl (sb _ hDp) hpi hpl (hgt _ hb.1 hb.2) (hle _ hb.1 hb.2) (sb _ hTi) hb P2) (fun _ s3 h3 => wpAny_mono h3 (fun f s4 h4 => ?hend) fun _ _ h => h) fun _ _ h => h
    case hn1 =>
      intro p hp
      rcases List.mem_cons.mp hp with rfl | hp
      · exact hoI.noCell
      · exact (List.mem_append.mp hp).elim (fun h => (htl1 p h).1) (hled p)
    case hn2 =>
      intro p hp
      rcases List.mem_cons.mp hp with rfl | hp
      · exact hI77
      · exact (List.mem_append.mp hp).elim (fun h => (htl1 p h).2.1) (h77 p)
    case hend =>
      obtain ⟨rfl, h5⟩ := h4
      unfold Halt at h5
      exact ⟨ys.length - (i + 1), by omega, i + 1, rfl, by omega, inv15_of h5 hoI⟩
  · obtain rfl : i = ys.length := by omega
    refine W.done _ _ _ (by rw [hasz]; exact ⟨hit, hl1⟩) fun h2 tk2 hk2 => ?_
    refine wpAny_execs_nil ?_
    refine wpAny_execs_nil ?_
    refine hQ9 _ _ ⟨rfl, ?_⟩
    unfold Halt
    exact inv15_done (tk' := tk2) P1 (fun _ h => h.any) (fun _ h => h.any) (fun _ h => h.any) (fun _ h => h.any) (fun _ h => CR.any h) (fun _ h => CR.any h) (fun _ h => h.any) (fun _ h => h.any) (fun _ h => CR.any h) htl1 hit hIled hI77 hIL hI0 hk2 hps1 hled h77
end
end
section
section
variable {w : World} {loose : List Str} {mean : ExcName → Option Value} {mg mb : Str → Option Value} {h₀ : Heap} {L fa : Addr} {cd : Value} {s₀ s : Shared} {E : Value → Shared → Prop} {led : List (Addr × Obj)}
theorem law_s1 {scr : Addr} {D : Addr} {us : List Value} {c : Nat} {ds : List Int}
    (B : Below callerA h₀ [] h₀) (X : (hd.heap_39 w.params).In h₀) (T : Top topProg loose mean mg mb h₀) (hled : ∀ p ∈ led, NoCell p.2)
    (hD : (D, listOf us.toArray c) ∈ led) (hI : IntsAre us ds) (hl6 : ds.length = 6)
    (P : LSt h₀ L s₀ [(Str.ofString "draws", .ref D)] led CA CA CA CA CA CA CA CA CA CA s) :
    wpAny (model PG w) (lawA L fa cd) (execs (stm 1) (lawEnv L fa cd)) (fun f s' => f = .next ∧ 0 < s'.toks ∧ LSt h₀ L s₀ [(Str.ofString "draws", .ref D)] led (CI ((ds.getD 0 0).fmod 64)) CA CA CA CA CA CA CA CA CA s') E s := by
  refine gen_post fun Q9 hQ9 => ?_
  obtain ⟨u, o1, o2, o3, o4, o5, o6, o7, o8, o9, o10, h, tk, rfl, F, N, d1, d2, d3, d4, d5, d6, d7, d8, d9, d10⟩ := P
  obtain ⟨t1, d1⟩ := d1
  obtain ⟨t2, d2⟩ := d2
  obtain ⟨t3, d3⟩ := d3
  obtain ⟨t4, d4⟩ := d4
  obtain ⟨t5, d5⟩ := d5
  obtain ⟨t6, d6⟩ := d6
  obtain ⟨t7, d7⟩ := d7
  obtain ⟨t8, d8⟩ := d8
  obtain ⟨t9, d9⟩ := d9
  obtain ⟨t10, d10⟩ := d10
  unfold cells at N
  simp only [List.cons_append, List.nil_append] at N
  dsimp only [stm, lawEnv, lawA, lawDef, PySem.Challenge.pw_pe0126_01, List.drop, List.take]
  k_steps
  all_goals first | (
    (rename Fr _ _ _ _ => F9)
    (rename News _ _ _ _ => N9)
    refine wpAny_with_toks (n := 1) (Nat.succ_le_succ (Nat.zero_le _)) ?_
    refine store_start (s₀ := s₀) (led := led) (c1 := CA) (c2 := CA) (c3 := CA) (c4 := CA) (c5 := CA) (c6 := CA) (c7 := CA) (c8 := CA) (c9 := CA) (c10 := CA) (CI ((ds.getD 0 0).fmod 64)) ⟨_, o1, o2, o3, o4, o5, o6, o7, o8, o9, o10, _, _, rfl, F9, News.sub N9 (fun p hp => hp), ⟨_, d1⟩, ⟨_, d2⟩, ⟨_, d3⟩, ⟨_, d4⟩, ⟨_, d5⟩, ⟨_, d6⟩, ⟨_, d7⟩, ⟨_, d8⟩, ⟨_, d9⟩, ⟨_, d10⟩⟩ (fun _ h => h) (hled) (fun o h => ⟨_, h⟩) (fun s' P' => ?_)
    intro htk
    refine wpAny_execs_nil ?_
    exact hQ9 _ _ ⟨rfl, htk, P'⟩) | (exfalso; omega)
end
end
section
section
variable {w : World} {loose : List Str} {mean : ExcName → Option Value} {mg mb : Str → Option Value} {h₀ : Heap} {L fa : Addr} {cd : Value} {s₀ s : Shared} {E : Value → Shared → Prop} {led : List (Addr × Obj)}
theorem law_s2 {scr : Addr} {start : Int} {D : Addr} {us : List Value} {c : Nat} {ds : List Int}
    (B : Below callerA h₀ [] h₀) (X : (hd.heap_39 w.params).In h₀) (T : Top topProg loose mean mg mb h₀) (hled : ∀ p ∈ led, NoCell p.2)
    (hD : (D, listOf us.toArray c) ∈ led) (hI : IntsAre us ds) (hl6 : ds.length = 6)
    (P : LSt h₀ L s₀ [(Str.ofString "draws", .ref D)] led (CI start) CA CA CA CA CA CA CA CA CA s) :
    wpAny (model PG w) (lawA L fa cd) (execs (stm 2) (lawEnv L fa cd)) (fun f s' => f = .next ∧ LSt h₀ L s₀ [(Str.ofString "draws", .ref D)] led (CI start) (CI ((ds.getD 1 0).fmod 15 + 1)) CA CA CA CA CA CA CA CA s') E s := by
  refine gen_post fun Q9 hQ9 => ?_
  obtain ⟨u, o1, o2, o3, o4, o5, o6, o7, o8, o9, o10, h, tk, rfl, F, N, d1, d2, d3, d4, d5, d6, d7, d8, d9, d10⟩ := P
  obtain ⟨t1, d1⟩ := d1
  obtain ⟨t2, d2⟩ := d2
  obtain ⟨t3, d3⟩ := d3
  obtain ⟨t4, d4⟩ := d4
  obtain ⟨t5, d5⟩ := d5
  obtain ⟨t6, d6⟩ := d6
  obtain ⟨t7, d7⟩ := d7
  obtain ⟨t8, d8⟩ := d8
  obtain ⟨t9, d9⟩ := d9
  obtain ⟨t10, d10⟩ := d10
  unfold cells at N
  simp only [List.cons_append, List.nil_append] at N
  dsimp only [stm, lawEnv, lawA, lawDef, PySem.Challenge.pw_pe0126_01, List.drop, List.take]
  k_steps
  all_goals first | (
    (rename Fr _ _ _ _ => F9)
    (rename News _ _ _ _ => N9)
    refine store_leap (s₀ := s₀) (led := led) (c1 := CI start) (c2 := CA) (c3 := CA) (c4 := CA) (c5 := CA) (c6 := CA) (c7 := CA) (c8 := CA) (c9 := CA) (c10 := CA) (CI ((ds.getD 1 0).fmod 15 + 1)) ⟨_, o1, o2, o3, o4, o5, o6, o7, o8, o9, o10, _, _, rfl, F9, News.sub N9 (fun p hp => hp), ⟨_, d1⟩, ⟨_, d2⟩, ⟨_, d3⟩, ⟨_, d4⟩, ⟨_, d5⟩, ⟨_, d6⟩, ⟨_, d7⟩, ⟨_, d8⟩, ⟨_, d9⟩, ⟨_, d10⟩⟩ (fun _ h => h) (hled) (fun o h => ⟨_, h⟩) (fun s' P' => ?_)
    refine wpAny_execs_nil ?_
    exact hQ9 _ _ ⟨rfl, P'⟩) | (exfalso; omega)
end
end
section
section
variable {w : World} {loose : List Str} {mean : ExcName → Option Value} {mg mb : Str → Option Value} {h₀ : Heap} {L fa : Addr} {cd : Value} {s₀ s : Shared} {E : Value → Shared → Prop} {led : List (Addr × Obj)}
theorem law_s4 {scr D P' : Addr} {start leap step : Int}
    (B : Below callerA h₀ [] h₀) (X : (hd.heap_39 w.params).In h₀) (T : Top topProg loose mean mg mb h₀) (hled : ∀ p ∈ led, NoCell p.2)
    (ht : 1 ≤ step ∧ step ≤ 8)
    (P : LSt h₀ L s₀ [(Str.ofString "pairs", .ref P'), (Str.ofString "draws", .ref D)] led (CI start) (CI leap) (CI step) CA CA CA CA CA CA CA s) :
    wpAny (model PG w) (lawA L fa cd) (execs (stm 4) (lawEnv L fa cd)) (fun f s' => f = .next ∧ LSt h₀ L s₀ [(Str.ofString "pairs", .ref P'), (Str.ofString "draws", .ref D)] led (CI start) (CI leap) (CI step) (CI (Int.fdiv 16 step)) CA CA CA CA CA CA s') E s := by
  refine gen_post fun Q9 hQ9 => ?_
  obtain ⟨u, o1, o2, o3, o4, o5, o6, o7, o8, o9, o10, h, tk, rfl, F, N, d1, d2, d3, d4, d5, d6, d7, d8, d9, d10⟩ := P
  obtain ⟨t1, d1⟩ := d1
  obtain ⟨t2, d2⟩ := d2
  obtain ⟨t3, d3⟩ := d3
  obtain ⟨t4, d4⟩ := d4
  obtain ⟨t5, d5⟩ := d5
  obtain ⟨t6, d6⟩ := d6
  obtain ⟨t7, d7⟩ := d7
  obtain ⟨t8, d8⟩ := d8
  obtain ⟨t9, d9⟩ := d9
  obtain ⟨t10, d10⟩ := d10
  unfold cells at N
  simp only [List.cons_append, List.nil_append] at N
  dsimp only [stm, lawEnv, lawA, lawDef, PySem.Challenge.pw_pe0126_01, List.drop, List.take]
  k_steps
  all_goals first | (
    (rename Fr _ _ _ _ => F9)
    (rename News _ _ _ _ => N9)
    refine store_size (s₀ := s₀) (led := led) (c1 := CI start) (c2 := CI leap) (c3 := CI step) (c4 := CA) (c5 := CA) (c6 := CA) (c7 := CA) (c8 := CA) (c9 := CA) (c10 := CA) (CI (Int.fdiv 16 step)) ⟨_, o1, o2, o3, o4, o5, o6, o7, o8, o9, o10, _, _, rfl, F9, News.sub N9 (fun p hp => hp), ⟨_, d1⟩, ⟨_, d2⟩, ⟨_, d3⟩, ⟨_, d4⟩, ⟨_, d5⟩, ⟨_, d6⟩, ⟨_, d7⟩, ⟨_, d8⟩, ⟨_, d9⟩, ⟨_, d10⟩⟩ (fun _ h => h) (hled) (fun o h => ⟨_, h⟩) (fun s' P' => ?_)
    refine wpAny_execs_nil ?_
    exact hQ9 _ _ ⟨rfl, P'⟩) | (exfalso; omega)
end
end
section
section
variable {w : World} {loose : List Str} {mean : ExcName → Option Value} {mg mb : Str → Option Value} {h₀ : Heap} {L fa : Addr} {cd : Value} {s₀ s : Shared} {E : Value → Shared → Prop} {led : List (Addr × Obj)}
theorem law_s5 {scr D P' : Addr} {start leap step size : Int}
    (B : Below callerA h₀ [] h₀) (X : (hd.heap_39 w.params).In h₀) (T : Top topProg loose mean mg mb h₀) (hled : ∀ p ∈ led, NoCell p.2)
    (hs : 0 ≤ start ∧ start < 64) (hl : 1 ≤ leap ∧ leap ≤ 15) (hz : 0 ≤ size ∧ size ≤ 16)
    (P : LSt h₀ L s₀ [(Str.ofString "pairs", .ref P'), (Str.ofString "draws", .ref D)] led (CI start) (CI leap) (CI step) (CI size) CA CA CA CA CA CA s) :
    wpAny (model PG w) (lawA L fa cd) (execs (stm 5) (lawEnv L fa cd)) (fun f s' => f = .next ∧ ∃ Dp vp, IntsAre vp ((rangeKs 0 (size + 1 - 0).toNat).map (placeAt start leap)) ∧ LSt h₀ L s₀ [(Str.ofString "pairs", .ref P'), (Str.ofString "draws", .ref D)] ((Dp, LCg.lst vp) :: led) (CI start) (CI leap) (CI step) (CI size) (CR Dp) CA CA CA CA CA s') E s := by
  refine gen_post fun Q9 hQ9 => ?_
  obtain ⟨u, o1, o2, o3, o4, o5, o6, o7, o8, o9, o10, h, tk, rfl, F, N, d1, d2, d3, d4, d5, d6, d7, d8, d9, d10⟩ := P
  obtain ⟨t1, d1⟩ := d1
  obtain ⟨t2, d2⟩ := d2
  obtain ⟨t3, d3⟩ := d3
  obtain ⟨t4, d4⟩ := d4
  obtain ⟨t5, d5⟩ := d5
  obtain ⟨t6, d6⟩ := d6
  obtain ⟨t7, d7⟩ := d7
  obtain ⟨t8, d8⟩ := d8
  obtain ⟨t9, d9⟩ := d9
  obtain ⟨t10, d10⟩ := d10
  unfold cells at N
  simp only [List.cons_append, List.nil_append] at N
  dsimp only [stm, lawEnv, lawA, lawDef, PySem.Challenge.pw_pe0126_01, List.drop, List.take]
  k_steps
  all_goals first | (
    (rename Fr _ _ _ _ => F9)
    (rename News _ _ _ _ => N9)
    refine store_places (s₀ := s₀) (led := (_, LCg.lst _) :: led) (c1 := CI start) (c2 := CI leap) (c3 := CI step) (c4 := CI size) (c5 := CA) (c6 := CA) (c7 := CA) (c8 := CA) (c9 := CA) (c10 := CA) (CR _) ⟨_, o1, o2, o3, o4, o5, o6, o7, o8, o9, o10, _, _, rfl, F9, News.sub N9 (sub_front), ⟨_, d1⟩, ⟨_, d2⟩, ⟨_, d3⟩, ⟨_, d4⟩, ⟨_, d5⟩, ⟨_, d6⟩, ⟨_, d7⟩, ⟨_, d8⟩, ⟨_, d9⟩, ⟨_, d10⟩⟩ (fun _ h => h) (led_cons noCell_seq hled) (fun o h => h) (fun s' P' => ?_)
    refine wpAny_execs_nil ?_
    exact hQ9 _ _ ⟨rfl, _, _, by assumption, P'⟩) | (exfalso; omega)
end
end
section
section
variable {w : World} {loose : List Str} {mean : ExcName → Option Value} {mg mb : Str → Option Value} {h₀ : Heap} {L fa : Addr} {cd : Value} {s₀ s : Shared} {E : Value → Shared → Prop} {led : List (Addr × Obj)}
def wordAt (word : PySem.Str) (first size k : Int) : PySem.Str := Txt.slice word (some ((first + k).fmod size)) none ++ Txt.slice word none (some ((first + k).fmod size))
theorem law_s10 {wk : PySem.Str} {tw : Tok} {scr D Dp Dt : Addr} {start leap step size first : Int} {word : PySem.Str}
    (B : Below callerA h₀ [] h₀) (X : (hd.heap_39 w.params).In h₀) (T : Top topProg loose mean mg mb h₀) (hled : ∀ p ∈ led, NoCell p.2)
    (hs : 0 ≤ start ∧ start < 64) (hl : 1 ≤ leap ∧ leap ≤ 15) (ht : 1 ≤ step ∧ step ≤ 8) (hz : 2 ≤ size ∧ size ≤ 16) (hw : (word.length : Int) = size) (hf : 0 ≤ first ∧ first < size)
    (P : LSt h₀ L s₀ [(Str.ofString "walked", .str wk tw), (Str.ofString "draws", .ref D)] led (CI start) (CI leap) (CI step) (CI size) (CR Dp) (CR Dt) (CS word) (CI first) CA CA s) :
    wpAny (model PG w) (lawA L fa cd) (execs (stm 10) (lawEnv L fa cd)) (fun f s' => f = .next ∧ ∃ Dw vw, StrsAre vw ((rangeKs 0 (size - 0).toNat).map (wordAt word first size)) ∧ LSt h₀ L s₀ [(Str.ofString "walked", .str wk tw), (Str.ofString "draws", .ref D)] ((Dw, LCg.lst vw) :: led) (CI start) (CI leap) (CI step) (CI size) (CR Dp) (CR Dt) (CS word) (CI first) (CR Dw) CA s') E s := by
  refine gen_post fun Q9 hQ9 => ?_
  obtain ⟨u, o1, o2, o3, o4, o5, o6, o7, o8, o9, o10, h, tk, rfl, F, N, d1, d2, d3, d4, d5, d6, d7, d8, d9, d10⟩ := P
  obtain ⟨t1, d1⟩ := d1
  obtain ⟨t2, d2⟩ := d2
  obtain ⟨t3, d3⟩ := d3
  obtain ⟨t4, d4⟩ := d4
  unfold CR at d5
  unfold CR at d6
  obtain ⟨t7, d7⟩ := d7
  obtain ⟨t8, d8⟩ := d8
  obtain ⟨t9, d9⟩ := d9
  obtain ⟨t10, d10⟩ := d10
  unfold cells at N
  simp only [List.cons_append, List.nil_append] at N
  dsimp only [stm, lawEnv, lawA, lawDef, PySem.Challenge.pw_pe0126_01, List.drop, List.take]
  walk_at "to compsrc"
  rename IsRange _ _ _ _ _ _ _ _ => hr
  with_unfolding_all refine LCg.CompSrc.range (by rfl) (by k_asm) (by k_asm) hr (small_one (by omega) (by omega) (by omega) (by omega)) (rangeSize_nat _ _) (by rw [PySem.sizeLine_eq]; omega) ?_
  intro g9
  refine' kct_range (wordAt word first size) (fun k' t' I' oI' C' oC' D' m' ys' h' tk' E' hlo' hhi' hC' hx' F' N' off' ne' hMark' => ?_) ?_
  · have off0 := off'
    simp only [LCg.Off3, and_true] at off'
    k_steps
    all_goals first | (exfalso; omega) | (refine LCg.CompEnd.intro (by assumption) (by assumption) _ (fun p hp => hp) off0 (by first | exact trivial | lcg_src | assumption) (kct_el rfl rfl rfl))
  · unfold KPfDone
    intro ys hC _
    have hS := strs_of_carried hC
    clear hC
    k_steps
    all_goals first | (
      (rename Fr _ _ _ _ => F9)
      (rename News _ _ _ _ => N9)
      refine store_words (s₀ := s₀) (led := (_, LCg.lst _) :: led) (c1 := CI start) (c2 := CI leap) (c3 := CI step) (c4 := CI size) (c5 := CR Dp) (c6 := CR Dt) (c7 := CS word) (c8 := CI first) (c9 := CA) (c10 := CA) (CR _) ⟨_, o1, o2, o3, o4, o5, o6, o7, o8, o9, o10, _, _, rfl, F9, News.sub N9 (sub_front), ⟨_, d1⟩, ⟨_, d2⟩, ⟨_, d3⟩, ⟨_, d4⟩, d5, d6, ⟨_, d7⟩, ⟨_, d8⟩, ⟨_, d9⟩, ⟨_, d10⟩⟩ (fun _ h => h) (led_cons noCell_seq hled) (fun o h => h) (fun s' P' => ?_)
      refine wpAny_execs_nil ?_
      exact hQ9 _ _ ⟨rfl, _, _, hS, P'⟩) | (exfalso; omega)
end
end
section
theorem words20 : True := by
  w_top off
  k_with_none
  k_with "to iter" => (repeat' ((fail_if_success (with_reducible show wpAny _ _ (PySem.pyIter _) _ _ _)); first | (k_unfold; (try dsimp only)) | walk1 | (dsimp only; walk1)))
  k_with "InvEndN" => (refine halt ?_)
  k_with "to for" => (repeat' ((fail_if_success (with_reducible show wpAny _ _ (PySem.exec (PySem.Stmt.For _ _ _ _ _) _) _ _ _)); first | (k_unfold; (try dsimp only)) | walk1 | (dsimp only; walk1)))
  k_with "to while" => (repeat' ((fail_if_success (with_reducible show wpAny _ _ (PySem.exec (PySem.Stmt.While _ _ _ _) _) _ _ _)); first | (k_unfold; (try dsimp only)) | walk1 | (dsimp only; walk1)))
  k_with "KswEnd" => (refine halt ?_)
  k_with "subscriptTail Name Slice str ref" => ((with_reducible show wpAny _ _ (subscriptTail _ (PySem.Expr.Slice none (some (PySem.Expr.BoolOp _ _ _)) none _) _ _) _ _ _); (with_reducible rename Fr _ _ _ _ => Fkx); (with_reducible rename News _ _ _ _ => Nkx); refine slice_nn (s := ⟨_, _, _, _, _⟩) Fkx Nkx ?_; intro _ _ _ _ _)
  k_with "to ite" => (repeat' ((fail_if_success (with_reducible show @ite Prop (true = true) _ _ _)); (fail_if_success (with_reducible show @ite Prop (false = true) _ _ _)); first | (k_unfold; (try dsimp only)) | walk1 | (dsimp only; walk1)))
  k_with "to compsrc" => (repeat' ((fail_if_success (with_reducible show LCg.CompSrc _ _ _ _ _ _ _ _ _ _ _ _ _ _)); first | (k_unfold; (try dsimp only)) | walk1 | (dsimp only; walk1)))
  k_with "KCtEl" => (refine halt ?_)
  k_with "call builtin:str.join" => (k_here; (with_reducible show wpAny _ _ (PySem.call (Value.builtin "str.join") [Value.str _ _, Value.ref _]) _ _ _); (refine join_led (by k_asm) (List.Mem.head _) (by assumption) (by assumption) ?_); intro tkx kkx; (try dsimp only))
  k_with "call ref" => (k_here; (with_reducible show wpAny _ _ (PySem.call (Value.ref 70) _) _ _ _); (with_unfolding_all refine' Spec2.useEu (euclid_spec _ _ _ _ _ ?_ ?_ ?_) ?_ ?_ ?_ ?_ ?_ ?_ ?_ ?_ ?_); (repeat ((fail_if_success (refine (show (_ : Prop) from ?_))); rotate_left 1)); (· (omega)); (· (omega)); (· (omega)); (· (k_asm)); (· (k_asm)); (· (k_asm)); (· (k_asm)); (· (k_asm)); (· (first | exact rfl | assumption)); (· (ktr_room)); (· (ktr_units)); k_whole; intro Tkx Dkx uskx nkx tkx hkx tkkx hSkx Fkx Nkx; (try dsimp only); (try k_fold))
  trivial
section
variable {w : World} {loose : List Str} {mean : ExcName → Option Value} {mg mb : Str → Option Value} {h₀ : Heap} {L fa : Addr} {cd : Value} {s₀ s : Shared} {E : Value → Shared → Prop} {led : List (Addr × Obj)}
theorem law_s3 {scr : Addr} {start leap : Int} {D : Addr} {us : List Value} {c : Nat} {ds : List Int}
    (B : Below callerA h₀ [] h₀) (X : (hd.heap_39 w.params).In h₀) (T : Top topProg loose mean mg mb h₀) (hled : ∀ p ∈ led, NoCell p.2)
    (hl : 1 ≤ leap ∧ leap ≤ 15)
    (P : LSt h₀ L s₀ [(Str.ofString "draws", .ref D)] led (CI start) (CI leap) CA CA CA CA CA CA CA CA s) :
    wpAny (model PG w) (lawA L fa cd) (execs (stm 3) (lawEnv L fa cd)) (fun f s' => f = .next ∧ Halt (∃ P' ps n, StrsAre ps (strs2 (eu 16 leap (16 - leap) []).1) ∧ LSt h₀ L s₀ [(Str.ofString "pairs", .ref P'), (Str.ofString "draws", .ref D)] ((P', listOf ps.toArray n) :: led) (CI start) (CI leap) (CI (eu 16 leap (16 - leap) []).2) CA CA CA CA CA CA CA s')) E s := by
  refine gen_post fun Q9 hQ9 => ?_
  obtain ⟨u, o1, o2, o3, o4, o5, o6, o7, o8, o9, o10, h, tk, rfl, F, N, d1, d2, d3, d4, d5, d6, d7, d8, d9, d10⟩ := P
  obtain ⟨t1, d1⟩ := d1
  obtain ⟨t2, d2⟩ := d2
  obtain ⟨t3, d3⟩ := d3
  obtain ⟨t4, d4⟩ := d4
  obtain ⟨t5, d5⟩ := d5
  obtain ⟨t6, d6⟩ := d6
  obtain ⟨t7, d7⟩ := d7
  obtain ⟨t8, d8⟩ := d8
  obtain ⟨t9, d9⟩ := d9
  obtain ⟨t10, d10⟩ := d10
  unfold cells at N
  simp only [List.cons_append, List.nil_append] at N
  dsimp only [stm, lawEnv, lawA, lawDef, PySem.Challenge.pw_pe0126_01, List.drop, List.take]
  k_steps
  all_goals first | (
    (rename Fr _ _ _ _ => F9)
    (rename News _ _ _ _ => N9)
    refine store_step (s₀ := s₀) (vars := [(Str.ofString "pairs", .ref _), (Str.ofString "draws", .ref D)]) (led := (_, listOf (List.toArray _) _) :: led) (c1 := CI start) (c2 := CI leap) (c3 := CA) (c4 := CA) (c5 := CA) (c6 := CA) (c7 := CA) (c8 := CA) (c9 := CA) (c10 := CA) (CI _) ⟨u, o1, o2, o3, o4, o5, o6, o7, o8, o9, o10, _, _, rfl, F9, News.sub N9 (fun p hp => .tail _ (sub_front p hp)), ⟨_, d1⟩, ⟨_, d2⟩, ⟨_, d3⟩, ⟨_, d4⟩, ⟨_, d5⟩, ⟨_, d6⟩, ⟨_, d7⟩, ⟨_, d8⟩, ⟨_, d9⟩, ⟨_, d10⟩⟩ (fun _ h => h) (led_cons noCell_seq hled) (fun o h => ⟨_, h⟩) (fun s' P' => ?_)
    have PP := P'; obtain ⟨u9, p1, p2, p3, p4, p5, p6, p7, p8, p9, p10, h9, tk9, rfl, -⟩ := P'
    k_steps; exact hQ9 _ _ ⟨rfl, _, _, _, by assumption, PP⟩) | (exfalso; omega)
end
end
section
theorem words21 : True := by
  w_top off
  k_with_none
  k_with "to iter" => (repeat' ((fail_if_success (with_reducible show wpAny _ _ (PySem.pyIter _) _ _ _)); first | (k_unfold; (try dsimp only)) | walk1 | (dsimp only; walk1)))
  k_with "InvEndN" => (refine halt ?_)
  k_with "to for" => (repeat' ((fail_if_success (with_reducible show wpAny _ _ (PySem.exec (PySem.Stmt.For _ _ _ _ _) _) _ _ _)); first | (k_unfold; (try dsimp only)) | walk1 | (dsimp only; walk1)))
  k_with "to while" => (repeat' ((fail_if_success (with_reducible show wpAny _ _ (PySem.exec (PySem.Stmt.While _ _ _ _) _) _ _ _)); first | (k_unfold; (try dsimp only)) | walk1 | (dsimp only; walk1)))
  k_with "KswEnd" => (refine halt ?_)
  k_with "subscriptTail Name Slice str ref" => ((with_reducible show wpAny _ _ (subscriptTail _ (PySem.Expr.Slice none (some (PySem.Expr.BoolOp _ _ _)) none _) _ _) _ _ _); (with_reducible rename Fr _ _ _ _ => Fkx); (with_reducible rename News _ _ _ _ => Nkx); refine slice_nn (s := ⟨_, _, _, _, _⟩) Fkx Nkx ?_; intro _ _ _ _ _)
  k_with "to ite" => (repeat' ((fail_if_success (with_reducible show @ite Prop (true = true) _ _ _)); (fail_if_success (with_reducible show @ite Prop (false = true) _ _ _)); first | (k_unfold; (try dsimp only)) | walk1 | (dsimp only; walk1)))
  k_with "to compsrc" => (repeat' ((fail_if_success (with_reducible show LCg.CompSrc _ _ _ _ _ _ _ _ _ _ _ _ _ _)); first | (k_unfold; (try dsimp only)) | walk1 | (dsimp only; walk1)))
  k_with "KCtEl" => (refine halt ?_)
  k_with "call builtin:str.join" => (k_here; (with_reducible show wpAny _ _ (PySem.call (Value.builtin "str.join") [Value.str _ _, Value.ref _]) _ _ _); (refine join_led (by k_asm) (List.Mem.head _) (by assumption) (by assumption) ?_); intro tkx kkx; (try dsimp only))
  k_with "eval ListComp" => (k_here; k_dflt (refine ListComp_KT (F₀ := by k_asm) (by first | assumption | exact Nat.succ_pos _) (by with_unfolding_all rfl) (by decide) (by rfl) (by decide) ?_))
  k_with "pyIter ref" => (refine halt2 ?_)
  k_with "call ref" => (k_here; (with_reducible show wpAny _ _ (PySem.call (Value.ref 63) _) _ _ _); (with_unfolding_all refine' SpecT.use3 (toldT_at _ _ _ _ _ _ _ ?_ ?_ ?_ ?_) ?_ ?_ ?_ ?_ ?_ ?_ ?_ ?_ ?_ ?_); (repeat ((fail_if_success (refine (show (_ : Prop) from ?_))); rotate_left 1)); (· (omega)); (· (omega)); (· (omega)); (· (first | assumption | exact Nat.succ_pos _)); (· (k_asm)); (· (k_asm)); (· (k_asm)); (· (k_asm)); (· (k_asm)); (· (first | exact rfl | assumption)); (· (first | assumption | exact Nat.succ_pos _)); (· (ktr_room)); (· (ktr_units)); k_whole; intro Dkx t1kx t2kx t3kx hkx tkkx ht1kx ht2kx ht3kx htkkx l1 Fkx Nkx; (try dsimp only); (try k_fold))
  trivial
section
variable {w : World} {loose : List Str} {mean : ExcName → Option Value} {mg mb : Str → Option Value} {h₀ : Heap} {L fa : Addr} {cd : Value} {s₀ s : Shared} {E : Value → Shared → Prop} {led : List (Addr × Obj)}
theorem law_s6 {scr D P' Dp : Addr} {start leap step size : Int}
    (B : Below callerA h₀ [] h₀) (X : (hd.heap_39 w.params).In h₀) (T : Top topProg loose mean mg mb h₀) (hled : ∀ p ∈ led, NoCell p.2)
    (hs : 0 ≤ start ∧ start < 64) (hl : 1 ≤ leap ∧ leap ≤ 15) (hz : 2 ≤ size ∧ size ≤ 16) (htk0 : 0 < s.toks)
    (P : LSt h₀ L s₀ [(Str.ofString "pairs", .ref P'), (Str.ofString "draws", .ref D)] led (CI start) (CI leap) (CI step) (CI size) (CR Dp) CA CA CA CA CA s) :
    wpAny (model PG w) (lawA L fa cd) (execs (stm 6) (lawEnv L fa cd)) (fun f s' => f = .next ∧ Halt (∃ Dt ys tl, TL (toldT start leap) (rangeKs 0 (size + 1 - 0).toNat) ys tl ∧ LSt h₀ L s₀ [(Str.ofString "pairs", .ref P'), (Str.ofString "draws", .ref D)] ((Dt, LCg.lst ys) :: (tl ++ led)) (CI start) (CI leap) (CI step) (CI size) (CR Dp) (CR Dt) CA CA CA CA s')) E s := by
  refine gen_post fun Q9 hQ9 => ?_
  obtain ⟨u, o1, o2, o3, o4, o5, o6, o7, o8, o9, o10, h, tk, rfl, F, N, d1, d2, d3, d4, d5, d6, d7, d8, d9, d10⟩ := P
  obtain ⟨t1, d1⟩ := d1
  obtain ⟨t2, d2⟩ := d2
  obtain ⟨t3, d3⟩ := d3
  obtain ⟨t4, d4⟩ := d4
  unfold CR at d5
  obtain ⟨t6, d6⟩ := d6
  obtain ⟨t7, d7⟩ := d7
  obtain ⟨t8, d8⟩ := d8
  obtain ⟨t9, d9⟩ := d9
  obtain ⟨t10, d10⟩ := d10
  unfold cells at N
  simp only [List.cons_append, List.nil_append] at N
  dsimp only [stm, lawEnv, lawA, lawDef, PySem.Challenge.pw_pe0126_01, List.drop, List.take]
  k_steps
  unfold Halt2
  rename IsRange _ _ _ _ _ _ _ _ => hr
  with_unfolding_all refine' ck_range ?hh ?hF ?hN hr (small_one (by omega) (by omega) (by omega) (by omega)) (rangeSize_nat _ _) (by rw [PySem.sizeLine_eq]; omega) ?q1 ?q2 (fun i ys tl => TL (toldT start leap) ((rangeKs 0 (size + 1 - 0).toNat).take i) ys tl) TL.nil ?turnz ?finz
  case hh => rfl
  case hF => k_asm
  case hN => k_asm
  case q1 => rfl
  case q2 => rfl
  case turnz =>
    intro i ys tl led' C oC D' m₂ h9 tk9 t' E' hi htk9 hJ hx hNs F9 N9 hne hsub _
    have m1 := hsub (L + 1, o1) (by k_mem)
    have m2 := hsub (L + 1 + 1, o2) (by k_mem)
    have m3 := hsub (L + 1 + 1 + 1, o3) (by k_mem)
    have m4 := hsub (L + 1 + 1 + 1 + 1, o4) (by k_mem)
    have m5 := hsub (L + 1 + 1 + 1 + 1 + 1, o5) (by k_mem)
    have m6 := hsub (L + 1 + 1 + 1 + 1 + 1 + 1, o6) (by k_mem)
    have m7 := hsub (L + 1 + 1 + 1 + 1 + 1 + 1 + 1, o7) (by k_mem)
    have m8 := hsub (L + 1 + 1 + 1 + 1 + 1 + 1 + 1 + 1, o8) (by k_mem)
    have m9 := hsub (L + 1 + 1 + 1 + 1 + 1 + 1 + 1 + 1 + 1, o9) (by k_mem)
    have m10 := hsub (L + 1 + 1 + 1 + 1 + 1 + 1 + 1 + 1 + 1 + 1, o10) (by k_mem)
    clear hsub
    have htk8 : 0 < tk9 := Nat.lt_of_lt_of_le (by first | assumption | exact Nat.succ_pos _) htk9
    have hk8 : (0 : Int) + (i : Int) ≤ 16 := by omega
    have hk7 : 0 ≤ (0 : Int) + (i : Int) := by omega
    have hgk := rangeKs_at hi
    generalize (0 : Int) + (i : Int) = k' at hx hk8 hk7 hgk
    have hlk := mul_bnd (a := leap) (b := k') (m := 15) (n := 16) (by omega) (by omega)
    have hf1 := fmod4 k'
    have hf2 := fmod4 (k'.fdiv 4)
    (try clear F)
    (try clear N)
    k_steps
    all_goals first
      | (exfalso; (rename Float64.isInf _ = true => hi9); exact absurd hi9 (qf_fits (by decide) (by omega)))
      | (show CkEnd h₀ L _ _ C oC D' ys led' _ _ _
         unfold CkEnd
         exact ⟨_, _, [_], rfl, by assumption, by assumption, fun p hp => by rw [List.mem_singleton.mp hp]; assumption, hJ.snoc hgk ⟨_, _, _, by assumption, by assumption, by assumption, rfl⟩ noCell_seq⟩)
  case finz =>
    intro D' h9 tk9 ys tl htk9 F9 N9 off hT
    rw [List.take_of_length_le (by rw [rangeKs_length]; exact Nat.le_refl _)] at hT
    (try clear F)
    (try clear N)
    k_steps
    all_goals first | (
      (rename Fr _ _ _ _ => F9)
      (rename News _ _ _ _ => N9)
      refine store_told (s₀ := s₀) (vars := [(Str.ofString "pairs", .ref P'), (Str.ofString "draws", .ref D)]) (led := (_, LCg.lst _) :: (tl ++ led)) (c1 := CI start) (c2 := CI leap) (c3 := CI step) (c4 := CI size) (c5 := CR Dp) (c6 := CA) (c7 := CA) (c8 := CA) (c9 := CA) (c10 := CA) (CR _) ⟨u, o1, o2, o3, o4, o5, o6, o7, o8, o9, o10, _, _, rfl, F9, News.sub N9 (sub_led), ⟨_, d1⟩, ⟨_, d2⟩, ⟨_, d3⟩, ⟨_, d4⟩, d5, ⟨_, d6⟩, ⟨_, d7⟩, ⟨_, d8⟩, ⟨_, d9⟩, ⟨_, d10⟩⟩ (fun _ h => h) (led_tl noCell_seq hT.seq hled) (fun o h => h) (fun s' P' => ?_)
      refine wpAny_execs_nil ?_
      exact hQ9 _ _ ⟨rfl, _, _, _, hT, P'⟩) | (exfalso; omega)
end
end
section
theorem words22 : True := by
  w_top off
  k_with_none
  k_with "to iter" => (repeat' ((fail_if_success (with_reducible show wpAny _ _ (PySem.pyIter _) _ _ _)); first | (k_unfold; (try dsimp only)) | walk1 | (dsimp only; walk1)))
  k_with "InvEndN" => (refine halt ?_)
  k_with "to for" => (repeat' ((fail_if_success (with_reducible show wpAny _ _ (PySem.exec (PySem.Stmt.For _ _ _ _ _) _) _ _ _)); first | (k_unfold; (try dsimp only)) | walk1 | (dsimp only; walk1)))
  k_with "to while" => (repeat' ((fail_if_success (with_reducible show wpAny _ _ (PySem.exec (PySem.Stmt.While _ _ _ _) _) _ _ _)); first | (k_unfold; (try dsimp only)) | walk1 | (dsimp only; walk1)))
  k_with "KswEnd" => (refine halt ?_)
  k_with "subscriptTail Name Slice str ref" => ((with_reducible show wpAny _ _ (subscriptTail _ (PySem.Expr.Slice none (some (PySem.Expr.BoolOp _ _ _)) none _) _ _) _ _ _); (with_reducible rename Fr _ _ _ _ => Fkx); (with_reducible rename News _ _ _ _ => Nkx); refine slice_nn (s := ⟨_, _, _, _, _⟩) Fkx Nkx ?_; intro _ _ _ _ _)
  k_with "to ite" => (repeat' ((fail_if_success (with_reducible show @ite Prop (true = true) _ _ _)); (fail_if_success (with_reducible show @ite Prop (false = true) _ _ _)); first | (k_unfold; (try dsimp only)) | walk1 | (dsimp only; walk1)))
  k_with "to compsrc" => (repeat' ((fail_if_success (with_reducible show LCg.CompSrc _ _ _ _ _ _ _ _ _ _ _ _ _ _)); first | (k_unfold; (try dsimp only)) | walk1 | (dsimp only; walk1)))
  k_with "KCtEl" => (refine halt ?_)
  k_with "call builtin:str.join" => (k_here; (with_reducible show wpAny _ _ (PySem.call (Value.builtin "str.join") [Value.str _ _, Value.ref _]) _ _ _); (refine join_led (by k_asm) (List.Mem.head _) (by assumption) (by assumption) ?_); intro tkx kkx; (try dsimp only))
  k_with "subscriptTail" => (k_here; (with_reducible show wpAny _ _ (subscriptTail _ _ (Value.ref _) (Value.int 0 _)) _ _ _); (with_unfolding_all refine' tup_item0 ?_ ?_ ?_; (repeat ((fail_if_success (refine (show (_ : Prop) from ?_))); rotate_left 1)); (· (k_asm)); (· (k_mem)); k_whole))
  k_with "subscriptTail" => (k_here; (with_reducible show wpAny _ _ (subscriptTail _ _ (Value.ref _) (Value.int _ _)) _ _ _); (rename TL _ _ _ _ => hT9); (with_unfolding_all refine' ktl_item2 ?_ ?_ hT9 ?_ ?_ ?_ ?_ ?_ ?_; (repeat ((fail_if_success (refine (show (_ : Prop) from ?_))); rotate_left 1)); (· (k_asm)); (· (assumption)); (· (assumption)); (· ((intro p9 hp9; k_mem))); (· (first | assumption | omega)); (· (first | assumption | omega)); (· (first | assumption | omega)); k_whole); intro Dkx okx hmkx hTkx; (obtain ⟨t1kx, t2kx, t3kx, p1kx, p2kx, p3kx, hEkx⟩ := hTkx); subst hEkx; (unfold flt3of at hmkx); (try dsimp only at hmkx))
  trivial
section
variable {w : World} {loose : List Str} {mean : ExcName → Option Value} {mg mb : Str → Option Value} {h₀ : Heap} {L fa : Addr} {cd : Value} {s₀ s : Shared} {E : Value → Shared → Prop} {led : List (Addr × Obj)}
def walkCh (start leap k : Int) : PySem.Str := if ltF (toldAt start leap (k + 1)).1 (toldAt start leap k).1 = true then Str.ofString "A" else Str.ofString "a"
theorem walk_sum (start leap : Int) : ∀ ks : List Int, ((ks.map (walkCh start leap)).map (·.length)).sum = ks.length
  | [] => rfl
  | k :: ks => by
    have h1 : (walkCh start leap k).length = 1 := by unfold walkCh; split <;> rfl
    simp only [List.map_cons, List.sum_cons, walk_sum start leap ks, h1, List.length_cons]; omega
theorem law_s7 {scr D P' Dp Dt : Addr} {start leap step size : Int} {ys : List Value} {tl : List (Addr × Obj)}
    (B : Below callerA h₀ [] h₀) (X : (hd.heap_39 w.params).In h₀) (T : Top topProg loose mean mg mb h₀) (hled : ∀ p ∈ led, NoCell p.2)
    (hs : 0 ≤ start ∧ start < 64) (hl : 1 ≤ leap ∧ leap ≤ 15) (hz : 2 ≤ size ∧ size ≤ 16) (hT : TL (toldT start leap) (rangeKs 0 (size + 1 - 0).toNat) ys tl) (hDt : (Dt, LCg.lst ys) ∈ led) (htl : ∀ p ∈ tl, p ∈ led)
    (P : LSt h₀ L s₀ [(Str.ofString "pairs", .ref P'), (Str.ofString "draws", .ref D)] led (CI start) (CI leap) (CI step) (CI size) (CR Dp) (CR Dt) CA CA CA CA s) :
    wpAny (model PG w) (lawA L fa cd) (execs (stm 7) (lawEnv L fa cd)) (fun f s' => f = .next ∧ Halt (∃ tw, LSt h₀ L s₀ [(Str.ofString "walked", .str (Txt.join (Str.ofString "") ((rangeKs 0 (size - 0).toNat).map (walkCh start leap))) tw), (Str.ofString "pairs", .ref P'), (Str.ofString "draws", .ref D)] led (CI start) (CI leap) (CI step) (CI size) (CR Dp) (CR Dt) CA CA CA CA s')) E s := by
  refine gen_post fun Q9 hQ9 => ?_
  obtain ⟨u, o1, o2, o3, o4, o5, o6, o7, o8, o9, o10, h, tk, rfl, F, N, d1, d2, d3, d4, d5, d6, d7, d8, d9, d10⟩ := P
  obtain ⟨t1, d1⟩ := d1
  obtain ⟨t2, d2⟩ := d2
  obtain ⟨t3, d3⟩ := d3
  obtain ⟨t4, d4⟩ := d4
  unfold CR at d5
  unfold CR at d6
  obtain ⟨t7, d7⟩ := d7
  obtain ⟨t8, d8⟩ := d8
  obtain ⟨t9, d9⟩ := d9
  obtain ⟨t10, d10⟩ := d10
  unfold cells at N
  simp only [List.cons_append, List.nil_append] at N
  dsimp only [stm, lawEnv, lawA, lawDef, PySem.Challenge.pw_pe0126_01, List.drop, List.take]
  walk_at "to compsrc"
  rename IsRange _ _ _ _ _ _ _ _ => hr
  with_unfolding_all refine LCg.CompSrc.range (by rfl) (by k_asm) (by k_asm) hr (small_one (by omega) (by omega) (by omega) (by omega)) (rangeSize_nat _ _) (by rw [PySem.sizeLine_eq]; omega) ?_
  intro g9
  refine' kct_range (walkCh start leap) (fun k' t' I' oI' C' oC' D' m' ys' h' tk' E' hlo' hhi' hC' hx' F' N' off' ne' hMark' => ?_) ?_
  · have hk1 : k' < ((size + 1 - 0).toNat : Int) := by clear off' ne'; omega
    have hk2 : k' + 1 < ((size + 1 - 0).toNat : Int) := by clear off' ne' hk1; omega
    have off0 := off'
    simp only [LCg.Off3, and_true] at off'
    k_steps
    all_goals first | (exfalso; clear off0 off' ne'; omega) | (refine LCg.CompEnd.intro (by assumption) (by assumption) _ (fun p hp => hp) off0 (by first | exact trivial | lcg_src | assumption) (kct_el (by unfold walkCh ltF; first | exact (if_pos (by assumption)).symm | exact if_pos (by assumption) | exact if_neg (by simp only [*]; decide)) rfl rfl))
    all_goals trace_state
  · unfold KPfDone
    intro ys hC _
    have hS := strs_of_carried hC
    have hsum : (((rangeKs 0 (size - 0).toNat).map (walkCh start leap)).map (·.length)).sum ≤ 1000 := by rw [walk_sum, rangeKs_length]; omega
    clear hC
    k_steps
    all_goals first | (
      (rename Fr _ _ _ _ => F9)
      (rename News _ _ _ _ => N9)
      refine hQ9 _ _ ⟨rfl, ?_⟩
      unfold Halt
      exact ⟨_, u, o1, o2, o3, o4, o5, o6, o7, o8, o9, o10, _, _, rfl, F9, News.sub N9 (fun p hp => .tail _ hp), ⟨_, d1⟩, ⟨_, d2⟩, ⟨_, d3⟩, ⟨_, d4⟩, d5, d6, ⟨_, d7⟩, ⟨_, d8⟩, ⟨_, d9⟩, ⟨_, d10⟩⟩) | (exfalso; omega)
end
end
section
theorem words23 : True := by
  w_top off
  k_with_none
  k_with "to iter" => (repeat' ((fail_if_success (with_reducible show wpAny _ _ (PySem.pyIter _) _ _ _)); first | (k_unfold; (try dsimp only)) | walk1 | (dsimp only; walk1)))
  k_with "InvEndN" => (refine halt ?_)
  k_with "to for" => (repeat' ((fail_if_success (with_reducible show wpAny _ _ (PySem.exec (PySem.Stmt.For _ _ _ _ _) _) _ _ _)); first | (k_unfold; (try dsimp only)) | walk1 | (dsimp only; walk1)))
  k_with "to while" => (repeat' ((fail_if_success (with_reducible show wpAny _ _ (PySem.exec (PySem.Stmt.While _ _ _ _) _) _ _ _)); first | (k_unfold; (try dsimp only)) | walk1 | (dsimp only; walk1)))
  k_with "KswEnd" => (refine halt ?_)
  k_with "subscriptTail Name Slice str ref" => ((with_reducible show wpAny _ _ (subscriptTail _ (PySem.Expr.Slice none (some (PySem.Expr.BoolOp _ _ _)) none _) _ _) _ _ _); (with_reducible rename Fr _ _ _ _ => Fkx); (with_reducible rename News _ _ _ _ => Nkx); refine slice_nn (s := ⟨_, _, _, _, _⟩) Fkx Nkx ?_; intro _ _ _ _ _)
  k_with "to ite" => (repeat' ((fail_if_success (with_reducible show @ite Prop (true = true) _ _ _)); (fail_if_success (with_reducible show @ite Prop (false = true) _ _ _)); first | (k_unfold; (try dsimp only)) | walk1 | (dsimp only; walk1)))
  k_with "to compsrc" => (repeat' ((fail_if_success (with_reducible show LCg.CompSrc _ _ _ _ _ _ _ _ _ _ _ _ _ _)); first | (k_unfold; (try dsimp only)) | walk1 | (dsimp only; walk1)))
  k_with "KCtEl" => (refine halt ?_)
  k_with "call builtin:str.join" => (k_here; (with_reducible show wpAny _ _ (PySem.call (Value.builtin "str.join") [Value.str _ _, Value.ref _]) _ _ _); (refine join_led (by k_asm) (List.Mem.head _) (by assumption) (by assumption) ?_); intro tkx kkx; (try dsimp only))
  k_with "call ref" => (k_here; (with_reducible show wpAny _ _ (PySem.call (Value.ref 35) _) _ _ _); (with_unfolding_all refine' Spec2.useStr (replace_spec _ _ _ _ _ ?_ ?_ ?_) ?_ ?_ ?_ ?_ ?_ ?_ ?_ ?_ ?_); (repeat ((fail_if_success (refine (show (_ : Prop) from ?_))); rotate_left 1)); (· (((simp only [List.append_nil]); assumption))); (· (assumption)); (· (assumption)); (· (k_asm)); (· (k_asm)); (· (k_asm)); (· (k_asm)); (· (k_asm)); (· (first | exact rfl | assumption)); (· (ktr_room)); (· (ktr_units)); k_whole; intro tkx hkx tkkx Fkx Nkx; (try dsimp only); (try k_fold))
  trivial
section
variable {w : World} {loose : List Str} {mean : ExcName → Option Value} {mg mb : Str → Option Value} {h₀ : Heap} {L fa : Addr} {cd : Value} {s₀ s : Shared} {E : Value → Shared → Prop} {led : List (Addr × Obj)}
theorem law_s8 {wk : PySem.Str} {tw : Tok} {scr D P' Dp Dt : Addr} {start leap step size : Int} {ps : List Value} {np : Nat} {bs : List Bool}
    (B : Below callerA h₀ [] h₀) (X : (hd.heap_39 w.params).In h₀) (T : Top topProg loose mean mg mb h₀) (hled : ∀ p ∈ led, NoCell p.2)
    (hP : (P', listOf ps.toArray np) ∈ led) (hS : StrsAre ps (strs2 bs)) (hbl : bs.length ≤ 16) (hok : okChain (Str.ofString "aA") bs = true)
    (P : LSt h₀ L s₀ [(Str.ofString "walked", .str wk tw), (Str.ofString "pairs", .ref P'), (Str.ofString "draws", .ref D)] led (CI start) (CI leap) (CI step) (CI size) (CR Dp) (CR Dt) CA CA CA CA s) :
    wpAny (model PG w) (lawA L fa cd) (execs (stm 8) (lawEnv L fa cd)) (fun f s' => f = .next ∧ Halt (LSt h₀ L s₀ [(Str.ofString "walked", .str wk tw), (Str.ofString "pairs", .ref P'), (Str.ofString "draws", .ref D)] led (CI start) (CI leap) (CI step) (CI size) (CR Dp) (CR Dt) (CS (bs.foldl stepR (Str.ofString "aA"))) CA CA CA s')) E s := by
  refine gen_post fun Q9 hQ9 => ?_
  obtain ⟨u, o1, o2, o3, o4, o5, o6, o7, o8, o9, o10, h, tk, rfl, F, N, d1, d2, d3, d4, d5, d6, d7, d8, d9, d10⟩ := P
  obtain ⟨t1, d1⟩ := d1
  obtain ⟨t2, d2⟩ := d2
  obtain ⟨t3, d3⟩ := d3
  obtain ⟨t4, d4⟩ := d4
  unfold CR at d5
  unfold CR at d6
  obtain ⟨t7, d7⟩ := d7
  obtain ⟨t8, d8⟩ := d8
  obtain ⟨t9, d9⟩ := d9
  obtain ⟨t10, d10⟩ := d10
  unfold cells at N
  simp only [List.cons_append, List.nil_append] at N
  dsimp only [stm, lawEnv, lawA, lawDef, PySem.Challenge.pw_pe0126_01, List.drop, List.take]
  have hpl : ps.length ≤ 32 := by rw [strsAre_length hS, strs2_length]; omega
  k_steps
  refine star_seq (o := listOf ps.toArray np) (T := "list") (ws := ps) (by k_asm) (by k_asm) (by k_mem) rfl rfl (.inl rfl) (by simp) (by rw [PySem.sizeLine_eq]; simp; omega) ?_
  intro h9 F9 N9
  clear F N
  k_steps
  all_goals first | (
    (rename Fr _ _ _ _ => F9)
    (rename News _ _ _ _ => N9)
    refine store_word (s₀ := s₀) (led := led) (c1 := CI start) (c2 := CI leap) (c3 := CI step) (c4 := CI size) (c5 := CR Dp) (c6 := CR Dt) (c7 := CA) (c8 := CA) (c9 := CA) (c10 := CA) (CS (bs.foldl stepR (Str.ofString "aA"))) ⟨_, o1, o2, o3, o4, o5, o6, o7, o8, o9, o10, _, _, rfl, F9, News.sub N9 (fun p hp => hp), ⟨_, d1⟩, ⟨_, d2⟩, ⟨_, d3⟩, ⟨_, d4⟩, d5, d6, ⟨_, d7⟩, ⟨_, d8⟩, ⟨_, d9⟩, ⟨_, d10⟩⟩ (fun _ h => h) (hled) (fun o h => ⟨_, h⟩) (fun s' P' => ?_)
    refine wpAny_execs_nil ?_
    exact hQ9 _ _ ⟨rfl, P'⟩) | (exfalso; omega)
end
end
section
theorem words24 : True := by
  w_top off
  k_with_none
  k_with "to iter" => (repeat' ((fail_if_success (with_reducible show wpAny _ _ (PySem.pyIter _) _ _ _)); first | (k_unfold; (try dsimp only)) | walk1 | (dsimp only; walk1)))
  k_with "InvEndN" => (refine halt ?_)
  k_with "to for" => (repeat' ((fail_if_success (with_reducible show wpAny _ _ (PySem.exec (PySem.Stmt.For _ _ _ _ _) _) _ _ _)); first | (k_unfold; (try dsimp only)) | walk1 | (dsimp only; walk1)))
  k_with "to while" => (repeat' ((fail_if_success (with_reducible show wpAny _ _ (PySem.exec (PySem.Stmt.While _ _ _ _) _) _ _ _)); first | (k_unfold; (try dsimp only)) | walk1 | (dsimp only; walk1)))
  k_with "KswEnd" => (refine halt ?_)
  k_with "subscriptTail Name Slice str ref" => ((with_reducible show wpAny _ _ (subscriptTail _ (PySem.Expr.Slice none (some (PySem.Expr.BoolOp _ _ _)) none _) _ _) _ _ _); (with_reducible rename Fr _ _ _ _ => Fkx); (with_reducible rename News _ _ _ _ => Nkx); refine slice_nn (s := ⟨_, _, _, _, _⟩) Fkx Nkx ?_; intro _ _ _ _ _)
  k_with "to ite" => (repeat' ((fail_if_success (with_reducible show @ite Prop (true = true) _ _ _)); (fail_if_success (with_reducible show @ite Prop (false = true) _ _ _)); first | (k_unfold; (try dsimp only)) | walk1 | (dsimp only; walk1)))
  k_with "to compsrc" => (repeat' ((fail_if_success (with_reducible show LCg.CompSrc _ _ _ _ _ _ _ _ _ _ _ _ _ _)); first | (k_unfold; (try dsimp only)) | walk1 | (dsimp only; walk1)))
  k_with "KCtEl" => (refine halt ?_)
  k_with "call builtin:str.join" => (k_here; (with_reducible show wpAny _ _ (PySem.call (Value.builtin "str.join") [Value.str _ _, Value.ref _]) _ _ _); (refine join_led (by k_asm) (List.Mem.head _) (by assumption) (by assumption) ?_); intro tkx kkx; (try dsimp only))
  k_with "CompSrcT" => (refine halt ?_)
  k_with "KCiEl" => (refine halt ?_)
  k_with "KCiNo" => (refine halt ?_)
  trivial
section
variable {w : World} {loose : List Str} {mean : ExcName → Option Value} {mg mb : Str → Option Value} {h₀ : Heap} {L fa : Addr} {cd : Value} {s₀ s : Shared} {E : Value → Shared → Prop} {led : List (Addr × Obj)}
def firstG (start leap step : Int) (l : List Int) (k : Int) : List Int := if (leap * k - (start.fdiv 4).fdiv step * step).fmod 16 = 0 then l ++ [k] else l
theorem law_s9 {wk : PySem.Str} {tw : Tok} {scr D Dp Dt : Addr} {start leap step size first : Int} {fr : List Int} {word : PySem.Str}
    (B : Below callerA h₀ [] h₀) (X : (hd.heap_39 w.params).In h₀) (T : Top topProg loose mean mg mb h₀) (hled : ∀ p ∈ led, NoCell p.2)
    (hs : 0 ≤ start ∧ start < 64) (hl : 1 ≤ leap ∧ leap ≤ 15) (ht : 1 ≤ step ∧ step ≤ 8) (hz : 2 ≤ size ∧ size ≤ 16) (hf : (rangeKs 0 (size - 0).toNat).foldl (firstG start leap step) [] = first :: fr)
    (P : LSt h₀ L s₀ [(Str.ofString "walked", .str wk tw), (Str.ofString "draws", .ref D)] led (CI start) (CI leap) (CI step) (CI size) (CR Dp) (CR Dt) (CS word) CA CA CA s) :
    wpAny (model PG w) (lawA L fa cd) (execs (stm 9) (lawEnv L fa cd)) (fun f s' => f = .next ∧ Halt (LSt h₀ L s₀ [(Str.ofString "walked", .str wk tw), (Str.ofString "draws", .ref D)] led (CI start) (CI leap) (CI step) (CI size) (CR Dp) (CR Dt) (CS word) (CI first) CA CA s')) E s := by
  refine gen_post fun Q9 hQ9 => ?_
  obtain ⟨u, o1, o2, o3, o4, o5, o6, o7, o8, o9, o10, h, tk, rfl, F, N, d1, d2, d3, d4, d5, d6, d7, d8, d9, d10⟩ := P
  obtain ⟨t1, d1⟩ := d1
  obtain ⟨t2, d2⟩ := d2
  obtain ⟨t3, d3⟩ := d3
  obtain ⟨t4, d4⟩ := d4
  unfold CR at d5
  unfold CR at d6
  obtain ⟨t7, d7⟩ := d7
  obtain ⟨t8, d8⟩ := d8
  obtain ⟨t9, d9⟩ := d9
  obtain ⟨t10, d10⟩ := d10
  unfold cells at N
  simp only [List.cons_append, List.nil_append] at N
  dsimp only [stm, lawEnv, lawA, lawDef, PySem.Challenge.pw_pe0126_01, List.drop, List.take]
  k_steps
  unfold Halt
  rename IsRange _ _ _ _ _ _ _ _ => hr
  with_unfolding_all refine LCt.CompSrcT.range (by rfl) (by k_asm) (by k_asm) hr (small_one (by omega) (by omega) (by omega) (by omega)) (rangeSize_nat _ _) (by rw [PySem.sizeLine_eq]; omega) ?_
  intro g9
  refine' kci_range (firstG start leap step) (fun k' t' I' oI' C' oC' D' m' ys' l' h' tk' E' hlo' hhi' hI' hC' hx' F' N' off' ne' hMark' => ?_) ?_ ?_
  · have off0 := off'
    simp only [LCg.Off3, and_true] at off'
    k_steps
    all_goals first | (exfalso; omega) | (refine LCg.CompEnd.intro (by assumption) (by assumption) _ (fun p hp => hp) off0 (by first | exact trivial | lcg_src | assumption) (kci_el (by unfold firstG; rw [if_pos (by assumption)]) rfl rfl)) | (refine LCg.CompEnd.intro (by assumption) (by assumption) _ (fun p hp => hp) off0 (by first | exact trivial | lcg_src | assumption) (kci_no (by unfold firstG; rw [if_neg (by assumption)]) rfl))
  · unfold KPfDone
    intro ys hI _
    rw [hf] at hI
    k_steps
    all_goals first | (
      (rename Fr _ _ _ _ => F9)
      (rename News _ _ _ _ => N9)
      refine store_first (s₀ := s₀) (led := led) (c1 := CI start) (c2 := CI leap) (c3 := CI step) (c4 := CI size) (c5 := CR Dp) (c6 := CR Dt) (c7 := CS word) (c8 := CA) (c9 := CA) (c10 := CA) (CI _) ⟨_, o1, o2, o3, o4, o5, o6, o7, o8, o9, o10, _, _, rfl, F9, News.sub N9 (fun p hp => .tail _ hp), ⟨_, d1⟩, ⟨_, d2⟩, ⟨_, d3⟩, ⟨_, d4⟩, d5, d6, ⟨_, d7⟩, ⟨_, d8⟩, ⟨_, d9⟩, ⟨_, d10⟩⟩ (fun _ h => h) (hled) (fun o h => ⟨_, h⟩) (fun s' P' => ?_)
      refine wpAny_execs_nil ?_
      exact hQ9 _ _ ⟨rfl, P'⟩) | (exfalso; omega)
  · intro l k
    unfold firstG
    split <;> simp
end
end
section
theorem words25 : True := by
  w_top off
  k_with_none
  k_with "to iter" => (repeat' ((fail_if_success (with_reducible show wpAny _ _ (PySem.pyIter _) _ _ _)); first | (k_unfold; (try dsimp only)) | walk1 | (dsimp only; walk1)))
  k_with "InvEndN" => (refine halt ?_)
  k_with "to for" => (repeat' ((fail_if_success (with_reducible show wpAny _ _ (PySem.exec (PySem.Stmt.For _ _ _ _ _) _) _ _ _)); first | (k_unfold; (try dsimp only)) | walk1 | (dsimp only; walk1)))
  k_with "to while" => (repeat' ((fail_if_success (with_reducible show wpAny _ _ (PySem.exec (PySem.Stmt.While _ _ _ _) _) _ _ _)); first | (k_unfold; (try dsimp only)) | walk1 | (dsimp only; walk1)))
  k_with "KswEnd" => (refine halt ?_)
  k_with "subscriptTail Name Slice str ref" => ((with_reducible show wpAny _ _ (subscriptTail _ (PySem.Expr.Slice none (some (PySem.Expr.BoolOp _ _ _)) none _) _ _) _ _ _); (with_reducible rename Fr _ _ _ _ => Fkx); (with_reducible rename News _ _ _ _ => Nkx); refine slice_nn (s := ⟨_, _, _, _, _⟩) Fkx Nkx ?_; intro _ _ _ _ _)
  k_with "to ite" => (repeat' ((fail_if_success (with_reducible show @ite Prop (true = true) _ _ _)); (fail_if_success (with_reducible show @ite Prop (false = true) _ _ _)); first | (k_unfold; (try dsimp only)) | walk1 | (dsimp only; walk1)))
  k_with "to compsrc" => (repeat' ((fail_if_success (with_reducible show LCg.CompSrc _ _ _ _ _ _ _ _ _ _ _ _ _ _)); first | (k_unfold; (try dsimp only)) | walk1 | (dsimp only; walk1)))
  k_with "KCtEl" => (refine halt ?_)
  k_with "call builtin:str.join" => (k_here; (with_reducible show wpAny _ _ (PySem.call (Value.builtin "str.join") [Value.str _ _, Value.ref _]) _ _ _); (refine join_led (by k_asm) (List.Mem.head _) (by assumption) (by assumption) ?_); intro tkx kkx; (try dsimp only))
  k_with "CompSrc" => (refine halt2 ?_)
  trivial
section
variable {w : World} {loose : List Str} {mean : ExcName → Option Value} {mg mb : Str → Option Value} {h₀ : Heap} {L fa : Addr} {cd : Value} {s₀ s : Shared} {E : Value → Shared → Prop} {led : List (Addr × Obj)}
theorem law_s11 {Dp Dt Dw : Addr} {start leap step size first : Int} {word wk : PySem.Str} {tw : Tok} {D : Addr} {us : List Value} {c : Nat} {ds : List Int}
    (B : Below callerA h₀ [] h₀) (X : (hd.heap_39 w.params).In h₀) (T : Top topProg loose mean mg mb h₀) (hled : ∀ p ∈ led, NoCell p.2)
    (hD : (D, listOf us.toArray c) ∈ led) (hI : IntsAre us ds) (hl6 : ds.length = 6)(ht : 1 ≤ step ∧ step ≤ 8) (hz : 2 ≤ size ∧ size ≤ 16)
    (P : LSt h₀ L s₀ [(Str.ofString "walked", .str wk tw), (Str.ofString "draws", .ref D)] led (CI start) (CI leap) (CI step) (CI size) (CR Dp) (CR Dt) (CS word) (CI first) (CR Dw) CA s) :
    wpAny (model PG w) (lawA L fa cd) (execs (stm 11) (lawEnv L fa cd)) (fun f s' => f = .next ∧ Halt (∃ Da ys tl, TL (askT size) ((ds.drop 2).take (min (2 + step).toNat ds.length - 2)) ys tl ∧ LSt h₀ L s₀ [(Str.ofString "asked", .ref Da), (Str.ofString "walked", .str wk tw), (Str.ofString "draws", .ref D)] ((Da, LCg.lst ys) :: (tl ++ led)) (CI start) (CI leap) (CI step) (CI size) (CR Dp) (CR Dt) (CS word) (CI first) (CR Dw) CA s')) E s := by
  refine gen_post fun Q9 hQ9 => ?_
  obtain ⟨u, o1, o2, o3, o4, o5, o6, o7, o8, o9, o10, h, tk, rfl, F, N, d1, d2, d3, d4, d5, d6, d7, d8, d9, d10⟩ := P
  obtain ⟨t1, d1⟩ := d1
  obtain ⟨t2, d2⟩ := d2
  obtain ⟨t3, d3⟩ := d3
  obtain ⟨t4, d4⟩ := d4
  unfold CR at d5
  unfold CR at d6
  obtain ⟨t7, d7⟩ := d7
  obtain ⟨t8, d8⟩ := d8
  unfold CR at d9
  obtain ⟨t10, d10⟩ := d10
  unfold cells at N
  simp only [List.cons_append, List.nil_append] at N
  dsimp only [stm, lawEnv, lawA, lawDef, PySem.Challenge.pw_pe0126_01, List.drop, List.take]
  k_steps
  unfold Halt2
  (rename IntsAre _ (List.take _ _) => hI9)
  have hlen9 : ((ds.drop 2).take (min (2 + step).toNat ds.length - 2)).length ≤ 6 := by rw [List.length_take, List.length_drop]; omega
  with_unfolding_all refine LCg.CompSrc.ledger (by rfl) (by k_asm) (by k_asm) (List.Mem.head _) (by rw [PySem.sizeLine_eq]; simp only [List.size_toArray, hI9.length]; omega) ?_
  intro g9
  refine' ktl_rest (ks := ((ds.drop 2).take (min (2 + step).toNat ds.length - 2))) (askT size) (by simp only [List.size_toArray]; exact hI9.length.symm) (fun i v _ hv => by obtain ⟨k, t, e, hk⟩ := IntsAre.at hI9 i v (by simpa using hv); exact ⟨k, t, hk, e⟩) (fun k' t' I' oI' C' oC' D' m' ys' led' h' tk' E' hk' hC' hx' F' N' off' ne' hsub => ?_) ?_
  · have off0 := off'
    have N0 := N'
    (try simp only [LCg.Off3, and_true] at off')
    have m0 := hsub _ (List.Mem.head _)
    have m1 := hsub (L + 1, o1) (.tail _ (by k_mem))
    have m2 := hsub (L + 1 + 1, o2) (.tail _ (by k_mem))
    have m3 := hsub (L + 1 + 1 + 1, o3) (.tail _ (by k_mem))
    have m4 := hsub (L + 1 + 1 + 1 + 1, o4) (.tail _ (by k_mem))
    have m5 := hsub (L + 1 + 1 + 1 + 1 + 1, o5) (.tail _ (by k_mem))
    have m6 := hsub (L + 1 + 1 + 1 + 1 + 1 + 1, o6) (.tail _ (by k_mem))
    have m7 := hsub (L + 1 + 1 + 1 + 1 + 1 + 1 + 1, o7) (.tail _ (by k_mem))
    have m8 := hsub (L + 1 + 1 + 1 + 1 + 1 + 1 + 1 + 1, o8) (.tail _ (by k_mem))
    have m9 := hsub (L + 1 + 1 + 1 + 1 + 1 + 1 + 1 + 1 + 1, o9) (.tail _ (by k_mem))
    have m10 := hsub (L + 1 + 1 + 1 + 1 + 1 + 1 + 1 + 1 + 1 + 1, o10) (.tail _ (by k_mem))
    clear hsub
    k_steps
    all_goals first
      | (exfalso; omega)
      | ((try k_unfold); (try dsimp only)
         refine LCg.CompEnd.intro (by assumption) (by assumption) _ sub_rot (off3_cons2 (by assumption) off0) (.inr ⟨_, .tail _ m0, rfl, _, rfl⟩) ⟨_, _, rfl, ⟨_, _, rfl⟩, noCell_seq, rfl⟩)
  · intro ys tl hT
    k_steps
    all_goals first | (
      (rename Fr _ _ _ _ => F9)
      (rename News _ _ _ _ => N9)
      refine hQ9 _ _ ⟨rfl, ?_⟩
      unfold Halt
      exact ⟨_, _, _, hT, u, o1, o2, o3, o4, o5, o6, o7, o8, o9, o10, _, _, rfl, F9, News.sub N9 (sub_led2), ⟨_, d1⟩, ⟨_, d2⟩, ⟨_, d3⟩, ⟨_, d4⟩, d5, d6, ⟨_, d7⟩, ⟨_, d8⟩, d9, ⟨_, d10⟩⟩) | (exfalso; omega)
end
end
section
theorem words26 : True := by
  w_top off
  k_with_none
  k_with "to iter" => (repeat' ((fail_if_success (with_reducible show wpAny _ _ (PySem.pyIter _) _ _ _)); first | (k_unfold; (try dsimp only)) | walk1 | (dsimp only; walk1)))
  k_with "InvEndN" => (refine halt ?_)
  k_with "to for" => (repeat' ((fail_if_success (with_reducible show wpAny _ _ (PySem.exec (PySem.Stmt.For _ _ _ _ _) _) _ _ _)); first | (k_unfold; (try dsimp only)) | walk1 | (dsimp only; walk1)))
  k_with "to while" => (repeat' ((fail_if_success (with_reducible show wpAny _ _ (PySem.exec (PySem.Stmt.While _ _ _ _) _) _ _ _)); first | (k_unfold; (try dsimp only)) | walk1 | (dsimp only; walk1)))
  k_with "KswEnd" => (refine halt ?_)
  k_with "subscriptTail Name Slice str ref" => ((with_reducible show wpAny _ _ (subscriptTail _ (PySem.Expr.Slice none (some (PySem.Expr.BoolOp _ _ _)) none _) _ _) _ _ _); (with_reducible rename Fr _ _ _ _ => Fkx); (with_reducible rename News _ _ _ _ => Nkx); refine slice_nn (s := ⟨_, _, _, _, _⟩) Fkx Nkx ?_; intro _ _ _ _ _)
  k_with "to ite" => (repeat' ((fail_if_success (with_reducible show @ite Prop (true = true) _ _ _)); (fail_if_success (with_reducible show @ite Prop (false = true) _ _ _)); first | (k_unfold; (try dsimp only)) | walk1 | (dsimp only; walk1)))
  k_with "to compsrc" => (repeat' ((fail_if_success (with_reducible show LCg.CompSrc _ _ _ _ _ _ _ _ _ _ _ _ _ _)); first | (k_unfold; (try dsimp only)) | walk1 | (dsimp only; walk1)))
  k_with "KCtEl" => (refine halt ?_)
  k_with "call builtin:str.join" => (k_here; (with_reducible show wpAny _ _ (PySem.call (Value.builtin "str.join") [Value.str _ _, Value.ref _]) _ _ _); (refine join_led (by k_asm) (List.Mem.head _) (by assumption) (by assumption) ?_); intro tkx kkx; (try dsimp only))
  k_with "SrcLP" => (refine halt2 ?_)
  trivial
section
variable {w : World} {loose : List Str} {mean : ExcName → Option Value} {mg mb : Str → Option Value} {h₀ : Heap} {L fa : Addr} {cd : Value} {s₀ s : Shared} {E : Value → Shared → Prop} {led : List (Addr × Obj)}
def gapOf (pl : List Int) (size k : Int) : Int := (if pl.getD (k.fmod size).toNat 0 - pl.getD ((k.fdiv size).fmod size).toNat 0 < 0 then -(pl.getD (k.fmod size).toNat 0 - pl.getD ((k.fdiv size).fmod size).toNat 0) else pl.getD (k.fmod size).toNat 0 - pl.getD ((k.fdiv size).fmod size).toNat 0).fdiv 4
theorem law_s12 {Dp Dt Dw : Addr} {start leap step size first : Int} {word : PySem.Str} {ks : List Int} {ys : List Value} {tl : List (Addr × Obj)} {Da : Addr} {wk : PySem.Str} {tw : Tok}{vp : List Value} {pl : List Int}
    (B : Below callerA h₀ [] h₀) (X : (hd.heap_39 w.params).In h₀) (T : Top topProg loose mean mg mb h₀) (hled : ∀ p ∈ led, NoCell p.2)
    (hz : 2 ≤ size ∧ size ≤ 16)(hTa : TL (askT size) ks ys tl) (hDa : (Da, LCg.lst ys) ∈ led) (htl : ∀ p ∈ tl, p ∈ led) (hks : ks.length ≤ 6)(hp : (Dp, LCg.lst vp) ∈ led) (hpi : IntsAre vp pl) (hpl : (pl.length : Int) = size + 1) (hpb : ∀ x ∈ pl, 0 ≤ x ∧ x < 64)
    (P : LSt h₀ L s₀ [(Str.ofString "asked", .ref Da), (Str.ofString "walked", .str wk tw)] led (CI start) (CI leap) (CI step) (CI size) (CR Dp) (CR Dt) (CS word) (CI first) (CR Dw) CA s) :
    wpAny (model PG w) (lawA L fa cd) (execs (stm 12) (lawEnv L fa cd)) (fun f s' => f = .next ∧ Halt (∃ Dg vg, IntsAre vg (ks.map (gapOf pl size)) ∧ LSt h₀ L s₀ [(Str.ofString "gaps", .ref Dg), (Str.ofString "asked", .ref Da), (Str.ofString "walked", .str wk tw)] ((Dg, LCg.lst vg) :: led) (CI start) (CI leap) (CI step) (CI size) (CR Dp) (CR Dt) (CS word) (CI first) (CR Dw) CA s')) E s := by
  refine gen_post fun Q9 hQ9 => ?_
  obtain ⟨u, o1, o2, o3, o4, o5, o6, o7, o8, o9, o10, h, tk, rfl, F, N, d1, d2, d3, d4, d5, d6, d7, d8, d9, d10⟩ := P
  obtain ⟨t1, d1⟩ := d1
  obtain ⟨t2, d2⟩ := d2
  obtain ⟨t3, d3⟩ := d3
  obtain ⟨t4, d4⟩ := d4
  unfold CR at d5
  unfold CR at d6
  obtain ⟨t7, d7⟩ := d7
  obtain ⟨t8, d8⟩ := d8
  unfold CR at d9
  obtain ⟨t10, d10⟩ := d10
  unfold cells at N
  simp only [List.cons_append, List.nil_append] at N
  dsimp only [stm, lawEnv, lawA, lawDef, PySem.Challenge.pw_pe0126_01, List.drop, List.take]
  k_steps
  unfold Halt2
  with_unfolding_all refine LCp.SrcLP.ledger (by rfl) (by k_asm) (by k_asm) (by k_mem) (by rw [PySem.sizeLine_eq]; simp only [List.size_toArray, hTa.len]; omega) ?_
  intro g9
  refine' kpp_rest (ks := ks) (fun k => k.fmod size) (fun k => (k.fdiv size).fmod size) (gapOf pl size) (by simp only [List.size_toArray]; exact hTa.len.symm) (fun i v _ hv => by obtain ⟨k, t, t1, t2, e1, e2, e3⟩ := tl_pairs hTa htl i v hv; exact ⟨k, t, t1, t2, e1, e2, by k_mem⟩) (fun k' t1' t2' I' oI' C' oC' D' m' ys' h' tk' E' hk' hC' hx' hx2' F' N' off' ne' => ?_) ?_
  · have off0 := off'
    simp only [LCg.Off3, and_true] at off'
    have hb1 := fmodb k' size (by omega)
    have hb2 := fmodb (k'.fdiv size) size (by omega)
    (try dsimp only at hx' hx2')
    k_steps
    all_goals first
      | (exfalso; omega)
      | (refine LCg.CompEnd.intro (by assumption) (by assumption) _ (fun p hp => hp) off0 (Or.inr ⟨_, by k_mem, rfl, _, rfl⟩) (kcf_el rfl rfl rfl))
      | exact kcf_el rfl rfl rfl
      | exact kcf_el (by unfold gapOf; rfl) rfl rfl
  · intro ys9 hI9
    k_steps
    all_goals first | (
      (rename Fr _ _ _ _ => F9)
      (rename News _ _ _ _ => N9)
      refine hQ9 _ _ ⟨rfl, ?_⟩
      unfold Halt
      exact ⟨_, _, hI9, u, o1, o2, o3, o4, o5, o6, o7, o8, o9, o10, _, _, rfl, F9, News.sub N9 (sub_front), ⟨_, d1⟩, ⟨_, d2⟩, ⟨_, d3⟩, ⟨_, d4⟩, d5, d6, ⟨_, d7⟩, ⟨_, d8⟩, d9, ⟨_, d10⟩⟩) | (exfalso; omega)
end
end
section
theorem words27 : True := by
  w_top off
  k_with_none
  k_with "to iter" => (repeat' ((fail_if_success (with_reducible show wpAny _ _ (PySem.pyIter _) _ _ _)); first | (k_unfold; (try dsimp only)) | walk1 | (dsimp only; walk1)))
  k_with "InvEndN" => (refine halt ?_)
  k_with "to for" => (repeat' ((fail_if_success (with_reducible show wpAny _ _ (PySem.exec (PySem.Stmt.For _ _ _ _ _) _) _ _ _)); first | (k_unfold; (try dsimp only)) | walk1 | (dsimp only; walk1)))
  k_with "to while" => (repeat' ((fail_if_success (with_reducible show wpAny _ _ (PySem.exec (PySem.Stmt.While _ _ _ _) _) _ _ _)); first | (k_unfold; (try dsimp only)) | walk1 | (dsimp only; walk1)))
  k_with "KswEnd" => (refine halt ?_)
  k_with "subscriptTail Name Slice str ref" => ((with_reducible show wpAny _ _ (subscriptTail _ (PySem.Expr.Slice none (some (PySem.Expr.BoolOp _ _ _)) none _) _ _) _ _ _); (with_reducible rename Fr _ _ _ _ => Fkx); (with_reducible rename News _ _ _ _ => Nkx); refine slice_nn (s := ⟨_, _, _, _, _⟩) Fkx Nkx ?_; intro _ _ _ _ _)
  k_with "to ite" => (repeat' ((fail_if_success (with_reducible show @ite Prop (true = true) _ _ _)); (fail_if_success (with_reducible show @ite Prop (false = true) _ _ _)); first | (k_unfold; (try dsimp only)) | walk1 | (dsimp only; walk1)))
  k_with "to compsrc" => (repeat' ((fail_if_success (with_reducible show LCg.CompSrc _ _ _ _ _ _ _ _ _ _ _ _ _ _)); first | (k_unfold; (try dsimp only)) | walk1 | (dsimp only; walk1)))
  k_with "KCtEl" => (refine halt ?_)
  k_with "call builtin:str.join" => (k_here; (with_reducible show wpAny _ _ (PySem.call (Value.builtin "str.join") [Value.str _ _, Value.ref _]) _ _ _); (refine join_led (by k_asm) (List.Mem.head _) (by assumption) (by assumption) ?_); intro tkx kkx; (try dsimp only))
  k_with "CompSrc" => (refine halt2 ?_)
  k_with "call builtin:min" => (k_here; (with_reducible show wpAny _ _ (PySem.call (Value.builtin "min") [Value.int _ _, Value.int _ _, Value.int _ _, Value.int _ _]) _ _ _); (with_unfolding_all refine' min4_call ?_ ?_ ?_ ?_; (repeat ((fail_if_success (refine (show (_ : Prop) from ?_))); rotate_left 1)); (· (rfl)); (· (k_asm)); (· (k_asm)); k_whole; intro tkx hkx tkkx Fkx Nkx; (try dsimp only); (try k_fold)))
  trivial
section
variable {w : World} {loose : List Str} {mean : ExcName → Option Value} {mg mb : Str → Option Value} {h₀ : Heap} {L fa : Addr} {cd : Value} {s₀ s : Shared} {E : Value → Shared → Prop} {led : List (Addr × Obj)}
theorem min4_bnd (a b c d n : Int) (ha : 0 ≤ a ∧ a ≤ n) (hb : 0 ≤ b ∧ b ≤ n) (hc : 0 ≤ c ∧ c ≤ n) (hd : 0 ≤ d ∧ d ≤ n) : 0 ≤ min4 a b c d ∧ min4 a b c d ≤ n := by
  unfold min4; dsimp only; (repeat' split) <;> omega
def costOf (leap step gap : Int) : Int := (2 * min4 gap (16 - gap) leap (16 - leap)).fdiv step
theorem law_s13 {Da Dg Dp Dt Dw : Addr} {start leap step size first : Int} {word wk : PySem.Str} {tw : Tok} {vg : List Value} {gl : List Int}
    (B : Below callerA h₀ [] h₀) (X : (hd.heap_39 w.params).In h₀) (T : Top topProg loose mean mg mb h₀) (hled : ∀ p ∈ led, NoCell p.2)
    (hl : 1 ≤ leap ∧ leap ≤ 15) (ht : 1 ≤ step ∧ step ≤ 8) (hg : (Dg, LCg.lst vg) ∈ led) (hgi : IntsAre vg gl) (hgl : gl.length ≤ 6) (hgb : ∀ x ∈ gl, 0 ≤ x ∧ x ≤ 16)
    (P : LSt h₀ L s₀ [(Str.ofString "gaps", .ref Dg), (Str.ofString "asked", .ref Da), (Str.ofString "walked", .str wk tw)] led (CI start) (CI leap) (CI step) (CI size) (CR Dp) (CR Dt) (CS word) (CI first) (CR Dw) CA s) :
    wpAny (model PG w) (lawA L fa cd) (execs (stm 13) (lawEnv L fa cd)) (fun f s' => f = .next ∧ Halt (∃ Dc vc, IntsAre vc (gl.map (costOf leap step)) ∧ LSt h₀ L s₀ [(Str.ofString "costs", .ref Dc), (Str.ofString "gaps", .ref Dg), (Str.ofString "asked", .ref Da), (Str.ofString "walked", .str wk tw)] ((Dc, LCg.lst vc) :: led) (CI start) (CI leap) (CI step) (CI size) (CR Dp) (CR Dt) (CS word) (CI first) (CR Dw) CA s')) E s := by
  refine gen_post fun Q9 hQ9 => ?_
  obtain ⟨u, o1, o2, o3, o4, o5, o6, o7, o8, o9, o10, h, tk, rfl, F, N, d1, d2, d3, d4, d5, d6, d7, d8, d9, d10⟩ := P
  obtain ⟨t1, d1⟩ := d1
  obtain ⟨t2, d2⟩ := d2
  obtain ⟨t3, d3⟩ := d3
  obtain ⟨t4, d4⟩ := d4
  unfold CR at d5
  unfold CR at d6
  obtain ⟨t7, d7⟩ := d7
  obtain ⟨t8, d8⟩ := d8
  unfold CR at d9
  obtain ⟨t10, d10⟩ := d10
  unfold cells at N
  simp only [List.cons_append, List.nil_append] at N
  dsimp only [stm, lawEnv, lawA, lawDef, PySem.Challenge.pw_pe0126_01, List.drop, List.take]
  k_steps
  unfold Halt2
  with_unfolding_all refine LCg.CompSrc.ledger (by rfl) (by k_asm) (by k_asm) (by k_mem) (by rw [PySem.sizeLine_eq]; simp only [List.size_toArray, hgi.length]; omega) ?_
  intro g9
  refine' kcf_rest (ks := gl) (costOf leap step) (by simp only [List.size_toArray]; exact hgi.length.symm) (fun i v _ hv => by obtain ⟨k, t, e, hk⟩ := IntsAre.at hgi i v (by simpa using hv); exact ⟨k, t, hk, e⟩) (fun k' t' I' oI' C' oC' D' m' ys' h' tk' E' hk' hC' hx' F' N' off' ne' hMark' => ?_) ?_
  · have off0 := off'
    simp only [LCg.Off3, and_true] at off'
    have hb1 := hgb k' hk'
    have hb2 := min4_bnd k' (16 - k') leap (16 - leap) 16 (by omega) (by omega) (by omega) (by omega)
    k_steps
    all_goals first
      | (exfalso; omega)
      | (refine LCg.CompEnd.intro (by assumption) (by assumption) _ (fun p hp => hp) off0 (Or.inr ⟨_, by k_mem, rfl, _, rfl⟩) (kcf_el rfl rfl rfl))
      | exact kcf_el rfl rfl rfl
    all_goals trace_state
  · unfold KPfDone
    intro ys9 hI9
    k_steps
    all_goals first | (
      (rename Fr _ _ _ _ => F9)
      (rename News _ _ _ _ => N9)
      refine hQ9 _ _ ⟨rfl, ?_⟩
      unfold Halt
      exact ⟨_, _, hI9, u, o1, o2, o3, o4, o5, o6, o7, o8, o9, o10, _, _, rfl, F9, News.sub N9 (sub_front), ⟨_, d1⟩, ⟨_, d2⟩, ⟨_, d3⟩, ⟨_, d4⟩, d5, d6, ⟨_, d7⟩, ⟨_, d8⟩, d9, ⟨_, d10⟩⟩) | (exfalso; omega)
end
end
section
theorem words28 : True := by
  w_top off
  k_with_none
  k_with "to iter" => (repeat' ((fail_if_success (with_reducible show wpAny _ _ (PySem.pyIter _) _ _ _)); first | (k_unfold; (try dsimp only)) | walk1 | (dsimp only; walk1)))
  k_with "InvEndN" => (refine halt ?_)
  k_with "to for" => (repeat' ((fail_if_success (with_reducible show wpAny _ _ (PySem.exec (PySem.Stmt.For _ _ _ _ _) _) _ _ _)); first | (k_unfold; (try dsimp only)) | walk1 | (dsimp only; walk1)))
  k_with "to while" => (repeat' ((fail_if_success (with_reducible show wpAny _ _ (PySem.exec (PySem.Stmt.While _ _ _ _) _) _ _ _)); first | (k_unfold; (try dsimp only)) | walk1 | (dsimp only; walk1)))
  k_with "KswEnd" => (refine halt ?_)
  k_with "subscriptTail Name Slice str ref" => ((with_reducible show wpAny _ _ (subscriptTail _ (PySem.Expr.Slice none (some (PySem.Expr.BoolOp _ _ _)) none _) _ _) _ _ _); (with_reducible rename Fr _ _ _ _ => Fkx); (with_reducible rename News _ _ _ _ => Nkx); refine slice_nn (s := ⟨_, _, _, _, _⟩) Fkx Nkx ?_; intro _ _ _ _ _)
  k_with "to ite" => (repeat' ((fail_if_success (with_reducible show @ite Prop (true = true) _ _ _)); (fail_if_success (with_reducible show @ite Prop (false = true) _ _ _)); first | (k_unfold; (try dsimp only)) | walk1 | (dsimp only; walk1)))
  k_with "to compsrc" => (repeat' ((fail_if_success (with_reducible show LCg.CompSrc _ _ _ _ _ _ _ _ _ _ _ _ _ _)); first | (k_unfold; (try dsimp only)) | walk1 | (dsimp only; walk1)))
  k_with "KCtEl" => (refine halt ?_)
  k_with "call builtin:str.join" => (k_here; (with_reducible show wpAny _ _ (PySem.call (Value.builtin "str.join") [Value.str _ _, Value.ref _]) _ _ _); (refine join_led (by k_asm) (List.Mem.head _) (by assumption) (by assumption) ?_); intro tkx kkx; (try dsimp only))
  k_with "eval ListComp" => (k_here; k_dflt (refine ListComp_KT (F₀ := by k_asm) (by first | assumption | exact Nat.succ_pos _) (by with_unfolding_all rfl) (by decide) (by rfl) (by decide) ?_))
  k_with "pyIter ref" => (refine halt2 ?_)
  k_with "compareOp NotEq ref ref" => (refine halt2 ?_)
  k_with "subscriptTail" => (k_here; (with_reducible show wpAny _ _ (subscriptTail _ _ (Value.ref _) (Value.int 0 _)) _ _ _); (with_unfolding_all refine' list_item0 ?_ ?_ ?_; (repeat ((fail_if_success (refine (show (_ : Prop) from ?_))); rotate_left 1)); (· (k_asm)); (· (k_mem)); k_whole))
  trivial
section
variable {w : World} {loose : List Str} {mean : ExcName → Option Value} {mg mb : Str → Option Value} {h₀ : Heap} {L fa : Addr} {cd : Value} {s₀ s : Shared} {E : Value → Shared → Prop} {led : List (Addr × Obj)}
theorem law_s14 {Dp Dt Dw Dc Da : Addr} {start leap step size first : Int} {word wk : PySem.Str} {tw tw0 : Tok} {ys vr vp : List Value} {tl : List (Addr × Obj)} {pl : List Int}
    (B : Below callerA h₀ [] h₀) (X : (hd.heap_39 w.params).In h₀) (T : Top topProg loose mean mg mb h₀) (hled : ∀ p ∈ led, NoCell p.2)
    (hs : 0 ≤ start ∧ start < 64) (hl : 1 ≤ leap ∧ leap ≤ 15) (hz : 2 ≤ size ∧ size ≤ 16) (htk0 : 0 < s.toks) (hT : TL (toldT start leap) (rangeKs 0 (size + 1 - 0).toNat) ys tl) (hDt : (Dt, LCg.lst ys) ∈ led) (htl : ∀ p ∈ tl, p ∈ led) (hDw : (Dw, LCg.lst (.str wk tw0 :: vr)) ∈ led) (hp : (Dp, LCg.lst vp) ∈ led) (hpi : IntsAre vp pl) (hpl : (pl.length : Int) = size + 1) (hplv : ∀ k : Int, 0 ≤ k → k ≤ size → pl.getD k.toNat 0 = placeAt start leap k)
    (P : LSt h₀ L s₀ [(Str.ofString "costs", .ref Dc), (Str.ofString "asked", .ref Da), (Str.ofString "walked", .str wk tw)] led (CI start) (CI leap) (CI step) (CI size) (CR Dp) (CR Dt) (CS word) (CI first) (CR Dw) CA s) :
    wpAny (model PG w) (lawA L fa cd) (execs (stm 14) (lawEnv L fa cd)) (fun f s' => f = .next ∧ Halt (LSt h₀ L s₀ [(Str.ofString "costs", .ref Dc), (Str.ofString "asked", .ref Da), (Str.ofString "walked", .str wk tw)] led (CI start) (CI leap) (CI step) (CI size) (CR Dp) (CR Dt) (CS word) (CI first) (CR Dw) CA s')) E s := by
  refine gen_post fun Q9 hQ9 => ?_
  obtain ⟨u, o1, o2, o3, o4, o5, o6, o7, o8, o9, o10, h, tk, rfl, F, N, d1, d2, d3, d4, d5, d6, d7, d8, d9, d10⟩ := P
  obtain ⟨t1, d1⟩ := d1
  obtain ⟨t2, d2⟩ := d2
  obtain ⟨t3, d3⟩ := d3
  obtain ⟨t4, d4⟩ := d4
  unfold CR at d5
  unfold CR at d6
  obtain ⟨t7, d7⟩ := d7
  obtain ⟨t8, d8⟩ := d8
  unfold CR at d9
  obtain ⟨t10, d10⟩ := d10
  unfold cells at N
  simp only [List.cons_append, List.nil_append] at N
  dsimp only [stm, lawEnv, lawA, lawDef, PySem.Challenge.pw_pe0126_01, List.drop, List.take]
  k_steps
  unfold Halt2
  rename IsRange _ _ _ _ _ _ _ _ => hr
  with_unfolding_all refine' ck_range ?hh ?hF ?hN hr (small_one (by omega) (by omega) (by omega) (by omega)) (rangeSize_nat _ _) (by rw [PySem.sizeLine_eq]; omega) ?q1 ?q2 (fun i ys tl => TL (toldT start leap) ((rangeKs 0 (size + 1 - 0).toNat).take i) ys tl) TL.nil ?turnz ?finz
  case hh => rfl
  case hF => k_asm
  case hN => k_asm
  case q1 => rfl
  case q2 => rfl
  case turnz =>
    intro i ys9 tl9 led' C oC D' m₂ h9 tk9 t' E' hi htk9 hJ hx hNs F9 N9 hne hsub _
    have m1 := hsub (L + 1, o1) (by k_mem)
    have m2 := hsub (L + 1 + 1, o2) (by k_mem)
    have m3 := hsub (L + 1 + 1 + 1, o3) (by k_mem)
    have m4 := hsub (L + 1 + 1 + 1 + 1, o4) (by k_mem)
    have m5 := hsub (L + 1 + 1 + 1 + 1 + 1, o5) (by k_mem)
    have m6 := hsub (L + 1 + 1 + 1 + 1 + 1 + 1, o6) (by k_mem)
    have m7 := hsub (L + 1 + 1 + 1 + 1 + 1 + 1 + 1, o7) (by k_mem)
    have m8 := hsub (L + 1 + 1 + 1 + 1 + 1 + 1 + 1 + 1, o8) (by k_mem)
    have m9 := hsub (L + 1 + 1 + 1 + 1 + 1 + 1 + 1 + 1 + 1, o9) (by k_mem)
    have m10 := hsub (L + 1 + 1 + 1 + 1 + 1 + 1 + 1 + 1 + 1 + 1, o10) (by k_mem)
    have m11 := hsub (Dp, LCg.lst vp) (by k_mem)
    clear hsub
    have htk8 : 0 < tk9 := Nat.lt_of_lt_of_le (by first | assumption | exact Nat.succ_pos _) htk9
    have hk8 : (0 : Int) + (i : Int) ≤ size := by omega
    have hk7 : 0 ≤ (0 : Int) + (i : Int) := by omega
    have hgk := rangeKs_at hi
    generalize (0 : Int) + (i : Int) = k' at hx hk8 hk7 hgk
    have hpk := hplv k' hk7 hk8
    have hpb : 0 ≤ pl.getD k'.toNat 0 ∧ pl.getD k'.toNat 0 < 64 := by rw [hpk]; exact fmodb _ 64 (by decide)
    have hf1 := fmod4 k'
    have hf2 := fmod4 (k'.fdiv 4)
    (try clear F)
    (try clear N)
    k_steps
    all_goals first
      | (exfalso; (rename Float64.isInf _ = true => hi9); exact absurd hi9 (qf_fits (by decide) (by omega)))
      | (exfalso; omega)
      | (show CkEnd h₀ L _ _ C oC D' ys9 led' _ _ _
         unfold CkEnd
         refine ⟨_, _, [_], rfl, by assumption, by assumption, fun p hp => ?hlt9, hJ.snoc hgk (toldT_of ?pe ?pa ?pb ?pc) noCell_seq⟩
         case hlt9 => rw [List.mem_singleton.mp hp]; exact lt_all (by assumption)
         case pe => unfold toldAt qf; rw [← hpk]
         all_goals first | assumption | exact Nat.succ_pos _)
  case finz =>
    intro D' h9 tk9 ys9 tl9 htk9 F9 N9 off hT9
    rw [List.take_of_length_le (by rw [rangeKs_length]; exact Nat.le_refl _)] at hT9
    (try clear F)
    (try clear N)
    k_steps
    unfold Halt2
    (rename Fr _ _ _ _ => F8)
    (rename News _ _ _ _ => N8)
    have sb1 : ∀ p ∈ led, p ∈ (D', LCg.lst ys9) :: (tl9 ++ (cells L o1 o2 o3 o4 o5 o6 o7 o8 o9 o10 ++ led)) := fun p hp => .tail _ (List.mem_append_right _ (List.mem_append_right _ hp))
    have sb2 : ∀ p ∈ tl9, p ∈ (D', LCg.lst ys9) :: (tl9 ++ (cells L o1 o2 o3 o4 o5 o6 o7 o8 o9 o10 ++ led)) := fun p hp => .tail _ (List.mem_append_left _ hp)
    have sb3 : ∀ p ∈ (cells L o1 o2 o3 o4 o5 o6 o7 o8 o9 o10 ++ led) ++ [], p ∈ (D', LCg.lst ys9) :: (tl9 ++ (cells L o1 o2 o3 o4 o5 o6 o7 o8 o9 o10 ++ led)) := fun p hp => .tail _ (List.mem_append_right _ (by simpa using hp))
    have N7 : News h₀ L _ (cells L o1 o2 o3 o4 o5 o6 o7 o8 o9 o10 ++ led) := News.sub N8 (fun p hp => .tail _ (List.mem_append_right _ hp))
    refine told_ne (led0 := led) (led1 := tl9) N8 hT hT9 (sb1 _ hDt) (.head _) htl sb1 (fun p hp => hp) sb2 (by ke_room) (booked_of X F8) ?_
    clear N8
    unfold cells at N7
    simp only [List.cons_append, List.nil_append] at N7
    clear sb1 sb2 sb3 off hT9 hT
    k_steps
    all_goals (try (exact absurd (by assumption : (wk != wk) = true) (by simp)))
    all_goals first | (
      (rename Fr _ _ _ _ => F9)
      (rename News _ _ _ _ => N9)
      refine hQ9 _ _ ⟨rfl, ?_⟩
      unfold Halt
      exact ⟨u, o1, o2, o3, o4, o5, o6, o7, o8, o9, o10, _, _, rfl, F9, News.sub N9 (fun p hp => hp), ⟨_, d1⟩, ⟨_, d2⟩, ⟨_, d3⟩, ⟨_, d4⟩, d5, d6, ⟨_, d7⟩, ⟨_, d8⟩, d9, ⟨_, d10⟩⟩) | (exfalso; omega)
end
end
end
section
theorem words29 : True := by
  w_top off
  k_with_none
  k_with "to iter" => (repeat' ((fail_if_success (with_reducible show wpAny _ _ (PySem.pyIter _) _ _ _)); first | (k_unfold; (try dsimp only)) | walk1 | (dsimp only; walk1)))
  k_with "InvEndN" => (refine halt ?_)
  k_with "to for" => (repeat' ((fail_if_success (with_reducible show wpAny _ _ (PySem.exec (PySem.Stmt.For _ _ _ _ _) _) _ _ _)); first | (k_unfold; (try dsimp only)) | walk1 | (dsimp only; walk1)))
  k_with "to while" => (repeat' ((fail_if_success (with_reducible show wpAny _ _ (PySem.exec (PySem.Stmt.While _ _ _ _) _) _ _ _)); first | (k_unfold; (try dsimp only)) | walk1 | (dsimp only; walk1)))
  k_with "KswEnd" => (refine halt ?_)
  k_with "subscriptTail Name Slice str ref" => ((with_reducible show wpAny _ _ (subscriptTail _ (PySem.Expr.Slice none (some (PySem.Expr.BoolOp _ _ _)) none _) _ _) _ _ _); (with_reducible rename Fr _ _ _ _ => Fkx); (with_reducible rename News _ _ _ _ => Nkx); refine slice_nn (s := ⟨_, _, _, _, _⟩) Fkx Nkx ?_; intro _ _ _ _ _)
  k_with "to ite" => (repeat' ((fail_if_success (with_reducible show @ite Prop (true = true) _ _ _)); (fail_if_success (with_reducible show @ite Prop (false = true) _ _ _)); first | (k_unfold; (try dsimp only)) | walk1 | (dsimp only; walk1)))
  k_with "subscriptTail" => (k_here; (with_reducible show wpAny _ _ (subscriptTail (PySem.Expr.List _ _) (PySem.Expr.Slice (some _) none none _) (Value.ref _) (Value.ref _)) _ _ _); k_dflt (refine' slice_six (s := ⟨_, _, _, _, _⟩) ?_ ?_ ?_ ?_ ?_ ?_ ?_; (repeat ((fail_if_success (refine (show (_ : Prop) from ?_))); rotate_left 1)); (· (k_asm)); (· (k_asm)); (· (k_mem)); (· (omega)); rotate_left 1; (· (with_unfolding_all rfl)); (· (kmk_pure)); k_whole); intro Dkx wskx hkx Fkx Nkx l1 hIkx; (try k_lt l1))
  k_with "subscriptTail List Slice ref ref" => (k_here; (with_reducible show wpAny _ _ (subscriptTail (PySem.Expr.List _ _) (PySem.Expr.Slice (some _) none none _) (Value.ref _) (Value.ref _)) _ _ _); k_dflt (refine' slice_six (s := ⟨_, _, _, _, _⟩) ?_ ?_ ?_ ?_ ?_ ?_ ?_; (repeat ((fail_if_success (refine (show (_ : Prop) from ?_))); rotate_left 1)); (· (k_asm)); (· (k_asm)); (· (k_mem)); (· (omega)); rotate_left 1; (· (with_unfolding_all rfl)); (· (kmk_pure)); k_whole); intro Dkx wskx hkx Fkx Nkx l1 hIkx; (try k_lt l1))
  k_with "eval List" => (k_here; k_dflt (refine' eval_six ?_ ?_ ?_; (repeat ((fail_if_success (refine (show (_ : Prop) from ?_))); rotate_left 1)); (· (k_asm)); (· (k_asm)); k_whole); intro Dkx t1kx t2kx t3kx t4kx t5kx t6kx hkx tkkx Fkx Nkx l1; (try k_lt l1))
  k_with "subscriptTail List Slice ref ref" => (refine halt2 ?_)
  k_with "subscriptTail" => ((with_reducible show wpAny _ _ (subscriptTail (PySem.Expr.List _ _) (PySem.Expr.Slice (some _) none none _) (Value.ref _) (Value.ref _)) _ _ _); refine halt2 ?_)
  k_with "eval ListComp" => (k_here; k_dflt (refine LCg.ListComp_U (F₀ := by k_asm) (by with_unfolding_all rfl) (by decide) (by rfl) (by decide) (by rfl) ?_))
  k_with "binaryOp Add ref ref" => (refine halt2 ?_)
  k_with "CompSrc" => (refine halt2 ?_)
  trivial
section
variable {w : World} {loose : List Str} {mean : ExcName → Option Value} {mg mb : Str → Option Value} {h₀ : Heap} {L fa : Addr} {cd : Value} {s₀ s : Shared} {E : Value → Shared → Prop} {led : List (Addr × Obj)}
def drawsOf (ns : List Int) : List Int := (ns.take 6).map (fun k => k.fmod 960) ++ ([22, 5, 24, 17, 9, 30] : List Int).drop (ns.take 6).length
theorem law_s0 {scr : Addr} {ns : List Int} {sv : List Value}
    (B : Below callerA h₀ [] h₀) (X : (hd.heap_39 w.params).In h₀) (T : Top topProg loose mean mg mb h₀) (hled : ∀ p ∈ led, NoCell p.2)
    (hscr : h₀.IsList scr sv.toArray) (hI : IntsAre sv ns) (hn : ns.length ≤ 63)
    (P : LSt h₀ L s₀ [(Str.ofString "script", .ref scr)] led CA CA CA CA CA CA CA CA CA CA s) :
    wpAny (model PG w) (lawA L fa cd) (execs (stm 0) (lawEnv L fa cd)) (fun f s' => f = .next ∧ Halt (∃ D us c, IntsAre us (drawsOf ns) ∧ LSt h₀ L s₀ [(Str.ofString "draws", .ref D)] ((D, listOf us.toArray c) :: led) CA CA CA CA CA CA CA CA CA CA s')) E s := by
  refine gen_post fun Q9 hQ9 => ?_
  obtain ⟨u, o1, o2, o3, o4, o5, o6, o7, o8, o9, o10, h, tk, rfl, F, N, d1, d2, d3, d4, d5, d6, d7, d8, d9, d10⟩ := P
  obtain ⟨t1, d1⟩ := d1
  obtain ⟨t2, d2⟩ := d2
  obtain ⟨t3, d3⟩ := d3
  obtain ⟨t4, d4⟩ := d4
  obtain ⟨t5, d5⟩ := d5
  obtain ⟨t6, d6⟩ := d6
  obtain ⟨t7, d7⟩ := d7
  obtain ⟨t8, d8⟩ := d8
  obtain ⟨t9, d9⟩ := d9
  obtain ⟨t10, d10⟩ := d10
  unfold cells at N
  simp only [List.cons_append, List.nil_append] at N
  dsimp only [stm, lawEnv, lawA, lawDef, PySem.Challenge.pw_pe0126_01, List.drop, List.take]
  k_steps
  unfold Halt2
  (rename IntsAre _ (List.take _ _) => hI9)
  have hlen9 : (List.take 6 ns).length ≤ 6 := by rw [List.length_take]; omega
  with_unfolding_all refine LCg.CompSrc.ledger (by rfl) (by k_asm) (by k_asm) (List.Mem.head _) (by rw [PySem.sizeLine_eq]; simp only [List.size_toArray, hI9.length]; omega) ?_
  intro g9
  refine' kcf_rest (ks := List.take 6 ns) (fun k => k.fmod 960) (by simp only [List.size_toArray]; exact hI9.length.symm) (fun i v _ hv => by obtain ⟨k, t, e, hk⟩ := IntsAre.at hI9 i v (by simpa using hv); exact ⟨k, t, hk, e⟩) (fun k' t' I' oI' C' oC' D' m' ys' h' tk' E' hk' hC' hx' F' N' off' ne' hMark' => ?_) ?_
  · have off0 := off'
    simp only [LCg.Off3, and_true] at off'
    k_steps
    all_goals first
      | (exfalso; omega)
      | (refine LCg.CompEnd.intro (by assumption) (by assumption) _ (fun p hp => hp) off0 (Or.inr ⟨_, .head _, rfl, _, rfl⟩) (kcf_el rfl rfl rfl))
      | exact kcf_el rfl rfl rfl
  · unfold KPfDone
    intro ys9 hI8
    k_steps
    unfold Halt2
    (rename Fr _ _ _ _ => F9)
    (rename News _ _ _ _ => N9)
    refine kba_turn (value' := .Name (Str.ofString "x") default) (fun _ => rfl) ?_
    refine' slice_six (s := ⟨_, _, _, _, _⟩) F9 N9 ?m ?z ?_ ?hs ?ht
    case m => k_mem
    case z => exact Int.natCast_nonneg _
    case hs => with_unfolding_all rfl
    case ht => exact fun _ => rfl
    intro D3 ws3 h3 F3 N3 l3 hI3
    clear F9 N9
    k_steps
    unfold Halt2
    (rename Fr _ _ _ _ => F7)
    (rename News _ _ _ _ => N7)
    have z8 := hI8.length
    have z3 := hI3.length
    rw [List.length_map] at z8
    rw [List.length_drop] at z3
    simp only [List.length_cons, List.length_nil] at z3
    have z33 : ys9.length ≤ 6 := by omega
    have z34 : ws3.length ≤ 6 := by omega
    refine' kmk_add_lit (its := ys9.toArray) (its2 := ws3.toArray) (zs := ys9 ++ ws3) F7 N7 ⟨_, (N7 (_, LCg.lst ys9) ?ma).1, rfl, _, rfl⟩ ⟨_, (N7 (_, listOf ws3.toArray 0) ?mb).1, rfl, _, rfl⟩ (by simp) ?_ (by rw [PySem.sizeLine_eq]; show ys9.length + ws3.length ≤ _; omega)
    case ma => k_mem
    case mb => k_mem
    intro D5 h5 F5 N5 l5
    clear F7 N7
    have hDr : IntsAre (ys9 ++ ws3) (drawsOf ns) := by unfold drawsOf; exact IntsAre.append hI8 (by simpa using hI3)
    k_steps
    all_goals first | (
      (rename Fr _ _ _ _ => F9)
      (rename News _ _ _ _ => N9)
      refine hQ9 _ _ ⟨rfl, ?_⟩
      unfold Halt
      exact ⟨_, _, _, hDr, (kstB u [(Str.ofString "script", .ref scr)]), o1, o2, o3, o4, o5, o6, o7, o8, o9, o10, _, _, rfl, F9, News.sub N9 (fun p hp => by rcases List.mem_cons.mp (sub_front p hp) with rfl | hq; exact .head _; (repeat (first | exact hq | refine List.Mem.tail _ ?_))), ⟨_, d1⟩, ⟨_, d2⟩, ⟨_, d3⟩, ⟨_, d4⟩, ⟨_, d5⟩, ⟨_, d6⟩, ⟨_, d7⟩, ⟨_, d8⟩, ⟨_, d9⟩, ⟨_, d10⟩⟩) | (exfalso; omega)
end
end
section
theorem words30 : True := by
  w_top off
  k_with_none
  k_with "to iter" => (repeat' ((fail_if_success (with_reducible show wpAny _ _ (PySem.pyIter _) _ _ _)); first | (k_unfold; (try dsimp only)) | walk1 | (dsimp only; walk1)))
  k_with "InvEndN" => (refine halt ?_)
  k_with "to for" => (repeat' ((fail_if_success (with_reducible show wpAny _ _ (PySem.exec (PySem.Stmt.For _ _ _ _ _) _) _ _ _)); first | (k_unfold; (try dsimp only)) | walk1 | (dsimp only; walk1)))
  k_with "to while" => (repeat' ((fail_if_success (with_reducible show wpAny _ _ (PySem.exec (PySem.Stmt.While _ _ _ _) _) _ _ _)); first | (k_unfold; (try dsimp only)) | walk1 | (dsimp only; walk1)))
  k_with "KswEnd" => (refine halt ?_)
  k_with "subscriptTail Name Slice str ref" => ((with_reducible show wpAny _ _ (subscriptTail _ (PySem.Expr.Slice none (some (PySem.Expr.BoolOp _ _ _)) none _) _ _) _ _ _); (with_reducible rename Fr _ _ _ _ => Fkx); (with_reducible rename News _ _ _ _ => Nkx); refine slice_nn (s := ⟨_, _, _, _, _⟩) Fkx Nkx ?_; intro _ _ _ _ _)
  k_with "to ite" => (repeat' ((fail_if_success (with_reducible show @ite Prop (true = true) _ _ _)); (fail_if_success (with_reducible show @ite Prop (false = true) _ _ _)); first | (k_unfold; (try dsimp only)) | walk1 | (dsimp only; walk1)))
  k_with "eval ListComp" => (k_here; k_dflt (refine ListComp_K (F₀ := by k_asm) (by with_unfolding_all rfl) (by decide) (by rfl) (by decide) ?_))
  k_with "call type:zip" => (refine halt2 ?_)
  k_with "subscriptTail" => (k_here; (with_reducible show wpAny _ _ (subscriptTail _ _ (Value.ref _) (Value.int _ _)) _ _ _); (rename StrsAre _ (List.map St _) => hS9); (with_unfolding_all refine' word_item ?_ hS9 ?_ ?_ ?_ ?_ ?_; (repeat ((fail_if_success (refine (show (_ : Prop) from ?_))); rotate_left 1)); (· (k_asm)); (· (k_mem)); (· (omega)); (· (omega)); (· (omega)); k_whole); intro tkx)
  k_with "call ref" => (k_here; (with_reducible show wpAny _ _ (PySem.call (Value.ref 75) _) _ _ _); (with_unfolding_all refine' Spec2.useStr (dressed_spec2 _ _ _ ?_) ?_ ?_ ?_ ?_ ?_ ?_ ?_ ?_ ?_); (repeat ((fail_if_success (refine (show (_ : Prop) from ?_))); rotate_left 1)); (· (assumption)); (· (k_asm)); (· (k_asm)); (· (k_asm)); (· (k_asm)); (· (k_asm)); (· (first | exact rfl | assumption)); (· (ktr_room)); (· (ktr_units)); k_whole; intro tkx hkx tkkx Fkx Nkx; (try dsimp only); (try k_fold))
  k_with "subscriptTail" => (refine halt2 ?_)
  k_with "compareOp Eq ref ref" => (refine halt2 ?_)
  k_with "call ref" => ((with_reducible show wpAny _ _ (PySem.call (Value.ref 56) _) _ _ _); refine halt2 ?_)
  trivial
theorem sub11 {a1 a2 a3 a4 a5 a6 a7 a8 a9 a10 a11 : Addr × Obj} {r : List (Addr × Obj)} : ∀ p ∈ r, p ∈ a1 :: a2 :: a3 :: a4 :: a5 :: a6 :: a7 :: a8 :: a9 :: a10 :: a11 :: r := fun _ hp => .tail _ (.tail _ (.tail _ (.tail _ (.tail _ (.tail _ (.tail _ (.tail _ (.tail _ (.tail _ (.tail _ hp))))))))))
section
variable {w : World} {loose : List Str} {mean : ExcName → Option Value} {mg mb : Str → Option Value} {h₀ : Heap} {L fa : Addr} {cd : Value} {s₀ s : Shared} {E : Value → Shared → Prop} {led : List (Addr × Obj)}
theorem law_s16 {Dp Dt Dw Dc Da : Addr} {start leap step size first : Int} {word : PySem.Str} {ks cl : List Int} {ys vc vw : List Value} {tl : List (Addr × Obj)} {wls : List (List Nat)}
    (B : Below callerA h₀ [] h₀) (X : (hd.heap_39 w.params).In h₀) (T : Top topProg loose mean mg mb h₀) (hled : ∀ p ∈ led, NoCell p.2)
    (hz : 2 ≤ size ∧ size ≤ 16) (hTa : TL (askT size) ks ys tl) (hDa : (Da, LCg.lst ys) ∈ led) (htl : ∀ p ∈ tl, p ∈ led) (hks : ks.length ≤ 6) (hDc : (Dc, LCg.lst vc) ∈ led) (hci : IntsAre vc cl) (hcl : cl.length = ks.length)
    (hDw : (Dw, LCg.lst vw) ∈ led) (hwi : StrsAre vw (wls.map St)) (hwl : (wls.length : Int) = size) (hwz : ∀ n : Nat, (wls.getD n []).length ≤ 16)
    (hsim : ∀ n k : Nat, n < wls.length → k < wls.length → Sim (dressL (wls.getD n [])) (dressL (wls.getD k [])))
    (hham : ∀ (i : Nat) (k : Int), ks[i]? = some k → cl[i]? = some (ham (dressL (wls.getD (k.fmod size).toNat [])) (dressL (wls.getD ((k.fdiv size).fmod size).toNat []))))
    (P : LSt h₀ L s₀ [(Str.ofString "costs", .ref Dc), (Str.ofString "asked", .ref Da)] led (CI start) (CI leap) (CI step) (CI size) (CR Dp) (CR Dt) (CS word) (CI first) (CR Dw) CA s) :
    wpAny (model PG w) (lawA L fa cd) (execs (stm 16) (lawEnv L fa cd)) (fun f s' => Halt (f = .ret (.bool true) ∧ ∃ h' tk', s' = { s₀ with heap := h', toks := tk' } ∧ (∃ m, Fr h₀ L h' m) ∧ News h₀ L h' led)) E s := by
  refine gen_post fun Q9 hQ9 => ?_
  obtain ⟨u, o1, o2, o3, o4, o5, o6, o7, o8, o9, o10, h, tk, rfl, F, N, d1, d2, d3, d4, d5, d6, d7, d8, d9, d10⟩ := P
  obtain ⟨t1, d1⟩ := d1
  obtain ⟨t2, d2⟩ := d2
  obtain ⟨t3, d3⟩ := d3
  obtain ⟨t4, d4⟩ := d4
  unfold CR at d5
  unfold CR at d6
  obtain ⟨t7, d7⟩ := d7
  obtain ⟨t8, d8⟩ := d8
  unfold CR at d9
  obtain ⟨t10, d10⟩ := d10
  unfold cells at N
  simp only [List.cons_append, List.nil_append] at N
  dsimp only [stm, lawEnv, lawA, lawDef, PySem.Challenge.pw_pe0126_01, List.drop, List.take]
  k_steps
  unfold Halt2
  have hys : ys.length = ks.length := hTa.len
  with_unfolding_all refine' ck_zip (xs := ys) (ys := vc) (PV := fun i v1 v2 => ∃ k t1 t2, ks[i]? = some k ∧ v1 = .int (k.fmod size) t1 ∧ v2 = .int ((k.fdiv size).fmod size) t2) ?hh ?hF ?hN ?hm1 ?hm2 ?hlen ?hsz (fun i x hx => ?hx) ?q1 ?q2 ?q3 ?q4 ?q5 ?q6 ?q7 (fun i vs tl' => tl' = [] ∧ i ≤ ks.length ∧ IntsAre vs (cl.take i)) ⟨rfl, Nat.zero_le _, .nil⟩ ?turnz ?finz
  case hh => rfl
  case hF => k_asm
  case hN => k_asm
  case hm1 => k_mem
  case hm2 => k_mem
  case hlen => rw [hci.length, hcl, hys]
  case hsz => omega
  case q1 => rfl
  case q2 => rfl
  case q3 => rfl
  case q4 => rfl
  case q5 => decide
  case q6 => decide
  case q7 => decide
  case hx =>
    obtain ⟨k, t, t1, t2, e1, e2, e3⟩ := tl_pairs hTa htl i x (by simpa using hx)
    exact ⟨t, _, _, e2, by k_mem, k, t1, t2, e1, rfl, rfl⟩
  case turnz =>
    intro i vs tl' led' C oC D' m₂ h9 tk9 v1 v2 y E' hi htk hJ9 hPV9 hy e1 e2 e3 hNs F9 N9 hne hsub _
    refine gen_post fun Qt hQt => ?_
    obtain ⟨rfl, hi2, hI⟩ := hJ9
    obtain ⟨k, t1', t2', hk, rfl, rfl⟩ := hPV9
    have m1 := hsub (L + 1, o1) (by k_mem)
    have m2 := hsub (L + 1 + 1, o2) (by k_mem)
    have m3 := hsub (L + 1 + 1 + 1, o3) (by k_mem)
    have m4 := hsub (L + 1 + 1 + 1 + 1, o4) (by k_mem)
    have m5 := hsub (L + 1 + 1 + 1 + 1 + 1, o5) (by k_mem)
    have m6 := hsub (L + 1 + 1 + 1 + 1 + 1 + 1, o6) (by k_mem)
    have m7 := hsub (L + 1 + 1 + 1 + 1 + 1 + 1 + 1, o7) (by k_mem)
    have m8 := hsub (L + 1 + 1 + 1 + 1 + 1 + 1 + 1 + 1, o8) (by k_mem)
    have m9 := hsub (L + 1 + 1 + 1 + 1 + 1 + 1 + 1 + 1 + 1, o9) (by k_mem)
    have m10 := hsub (L + 1 + 1 + 1 + 1 + 1 + 1 + 1 + 1 + 1 + 1, o10) (by k_mem)
    have m11 := hsub (Dw, LCg.lst vw) (by k_mem)
    clear hsub
    obtain ⟨c9, tc9, hyc, hc9⟩ := IntsAre.at hci i y hy
    subst hyc
    have hh9 := hham i k hk
    rw [hc9] at hh9
    have hh8 := Option.some.inj hh9
    have hb1 := fmodb k size (by omega)
    have hb2 := fmodb (k.fdiv size) size (by omega)
    have z1 := hwz (k.fmod size).toNat
    have z2 := hwz ((k.fdiv size).fmod size).toNat
    have hS8 := hsim (k.fmod size).toNat ((k.fdiv size).fmod size).toNat (by omega) (by omega)
    have hle : ham (dressL (wls.getD (k.fmod size).toNat [])) (dressL (wls.getD ((k.fdiv size).fmod size).toNat [])) ≤ c9 := by rw [hh8]; exact Int.le_refl _
    clear F N
    k_steps
    unfold Halt2
    (with_unfolding_all refine' word_item ?Na hwi ?ma ?z0a ?z1a ?z2a ?_)
    case Na => k_asm
    case ma => k_mem
    case z0a => omega
    case z1a => omega
    case z2a => omega
    intro t'
    k_steps
    unfold Halt2
    (with_unfolding_all refine' word_item ?Nb hwi ?mb ?z0b ?z1b ?z2b ?_)
    case Nb => k_asm
    case mb => k_mem
    case z0b => omega
    case z1b => omega
    case z2b => omega
    intro t'
    k_steps
    unfold Halt2
    (with_unfolding_all refine' Spec.useI (lev_spec _ _ _ _ _ _ _ ?p1 ?p2 ?p3) ?k1 ?k2 ?k3 ?k4 ?k5 ?k6 ?k7 ?k8 ?_)
    case p1 => rw [dressL_length]; exact z1
    case p2 => exact hS8
    case p3 => exact hle
    case k1 => k_asm
    case k2 => k_asm
    case k3 => k_asm
    case k4 => k_asm
    case k5 => k_asm
    case k6 => exact rfl
    case k7 => ktr_room
    case k8 => ktr_units
    intro t' h' tk' F' N'
    refine hQt _ _ ?_
    show CkEnd h₀ L _ _ C oC D' vs led' _ _ _
    unfold CkEnd
    refine ⟨h', tk', [], rfl, F', N', fun p hp => (nomatch hp), rfl, by omega, ?_⟩
    rw [List.take_add_one, hc9, ← hh8]
    exact IntsAre.append hI (.cons c9 t' .nil)
  case finz =>
    rintro D' h9 tk9 vs tl' htk F9 N9 off ⟨rfl, hi2, hI⟩
    have e9 : cl.take ys.length = cl := List.take_of_length_le (by omega)
    rw [e9] at hI
    clear F N
    simp only [List.nil_append] at N9
    k_steps
    unfold Halt2
    (rename Fr _ _ _ _ => F8)
    (rename News _ _ _ _ => N8)
    with_unfolding_all refine' ke_eq_ints (xs := vs) (ys := vc) ⟨_, (N8 _ (.head _)).1, rfl, _, rfl⟩ ⟨_, (N8 (Dc, LCg.lst vc) (by k_mem)).1, rfl, _, rfl⟩ hI hci (by ke_room) ?_
    rw [decide_eq_true rfl]
    k_steps
    all_goals (rename News _ _ _ _ => N5; refine hQ9 _ _ ?_; unfold Halt; exact ⟨rfl, _, _, rfl, ⟨_, F8⟩, News.sub N5 sub11⟩)
end
end
end
section
theorem words31 : True := by
  w_top off
  k_with_none
  trivial
def stT (leap : Nat) : Nat := Nat.gcd leap 16
def szT (leap : Nat) : Nat := 16 / stT leap
def zT (leap i : Nat) : Nat := leap * i % 16
def wT (leap : Nat) : List Nat := (List.range (szT leap)).map fun i => if zT leap (i + 1) < zT leap i then 65 else 97
def rT (leap i : Nat) : List Nat := (wT leap).drop i ++ (wT leap).take i
def dfT (a b : List Nat) : Nat → Nat
  | 0 => 0
  | k + 1 => dfT a b k + (if (b.getD k 0 == 97) = (a.getD k 0 == 97) then 0 else 1)
def absT (a b : Nat) : Nat := (a - b) + (b - a)
def tab1 (leap : Nat) : Bool := (eu 16 leap (16 - leap) []).2 == (stT leap : Int) && decide ((eu 16 leap (16 - leap) []).1.length ≤ 16) && okChain (Str.ofString "aA") (eu 16 leap (16 - leap) []).1 && decide ((eu 16 leap (16 - leap) []).1.foldl stepR (Str.ofString "aA") = St (wT leap))
theorem tab1_ok : ∀ leap ∈ (List.range 15).map (· + 1), tab1 leap = true := by decide +kernel
def tab2 (leap : Nat) : Bool := (List.range (szT leap)).all fun y => (List.range (szT leap)).any fun k => zT leap k == y * stT leap
theorem tab2_ok : ∀ leap ∈ (List.range 15).map (· + 1), tab2 leap = true := by decide +kernel
def ltL : List Nat → List Nat → Bool
  | [], [] => false
  | [], _ => true
  | _, [] => false
  | a :: l, b :: r => if a < b then true else if b < a then false else ltL l r
def tab3 (leap : Nat) : Bool := (List.range (szT leap)).all fun i => (List.range (szT leap)).all fun j => ltL (rT leap i) (rT leap j) == decide (zT leap i > zT leap j)
theorem tab3_ok : ∀ leap ∈ (List.range 15).map (· + 1), tab3 leap = true := by decide +kernel
def costT (leap g : Nat) : Nat := 2 * (min (min g (16 - g)) (min leap (16 - leap))) / stT leap
def tab4 (leap : Nat) : Bool := (List.range (szT leap)).all fun i => (List.range (szT leap)).all fun j => dfT (rT leap i) (rT leap j) (szT leap) == costT leap (absT (zT leap i) (zT leap j))
theorem tab4_ok : ∀ leap ∈ (List.range 15).map (· + 1), tab4 leap = true := by decide +kernel
def tab5 (leap : Nat) : Bool := (List.range (szT leap)).all fun i => decide (zT leap i + stT leap ≤ 16) && zT leap i % stT leap == 0
theorem tab5_ok : ∀ leap ∈ (List.range 15).map (· + 1), tab5 leap = true := by decide +kernel
end
section
theorem low_tab : ∀ i ∈ List.range 16, Txt.lower (St [97 + i]) = St [97 + i] ∧ Txt.lower (St [65 + i]) = St [97 + i] := by decide +kernel
theorem St_one {a b : Nat} : St [a] = St [b] ↔ a = b := by
  constructor
  · intro h
    unfold St at h
    simpa using h
  · rintro rfl; rfl
def ltr (u : Bool) (i : Nat) : Nat := if u then 97 + i else 65 + i
theorem low_ltr {u : Bool} {i : Nat} (h : i < 16) : Txt.lower (St [ltr u i]) = St [97 + i] := by
  have := low_tab i (List.mem_range.mpr h)
  cases u
  · exact this.2
  · exact this.1
theorem subc_ltr {u v : Bool} {i j : Nat} (hi : i < 16) (hj : j < 16) : subc (ltr u i) (ltr v j) = if i = j then (if u = v then 0 else 1) else 2 := by
  unfold subc
  simp only [low_ltr hi, low_ltr hj, St_one]
  unfold ltr
  cases u <;> cases v <;> simp <;> (repeat' split) <;> omega
theorem dressL_at {l : List Nat} {k : Nat} (h : k < l.length) : (dressL l).getD k 0 = ltr (l.getD k 0 == 97) k := by
  unfold dressL ltr
  rw [List.getD_eq_getElem?_getD, List.getElem?_map]
  simp [h]
theorem Hm_dress {a b : List Nat} (h : b.length = a.length) (ha : a.length ≤ 16) : ∀ k, k ≤ a.length → Hm (dressL a) (dressL b) k = (dfT a b k : Nat)
  | 0, _ => rfl
  | k + 1, hk => by
    unfold Hm dfT
    rw [Hm_dress h ha k (by omega), dressL_at (by omega), dressL_at (by omega), subc_ltr (by omega) (by omega), if_pos rfl]
    push_cast
    congr 1
    split <;> simp
theorem ham_dress {a b : List Nat} (h : b.length = a.length) (ha : a.length ≤ 16) : ham (dressL a) (dressL b) = (dfT a b a.length : Nat) := by
  unfold ham
  rw [dressL_length]
  exact Hm_dress h ha _ (Nat.le_refl _)
theorem sim_dress {a b : List Nat} (h : b.length = a.length) (ha : a.length ≤ 16) : Sim (dressL a) (dressL b) := by
  refine ⟨by rw [dressL_length, dressL_length, h], fun i j hi hj hij => ?_, fun i hi => ?_⟩
  · rw [dressL_length] at hi hj
    rw [dressL_at (by omega), dressL_at (by omega), subc_ltr (by omega) (by omega), if_neg hij]
  · rw [dressL_length] at hi
    rw [dressL_at (by omega), dressL_at (by omega), subc_ltr (by omega) (by omega), if_pos rfl]
    split <;> omega
end
section
def okL (l : Nat) : Prop := 1 ≤ l ∧ l ≤ 15
theorem memL {l : Nat} (h : okL l) : l ∈ (List.range 15).map (· + 1) := List.mem_map.mpr ⟨l - 1, List.mem_range.mpr (by unfold okL at h; omega), by unfold okL at h; omega⟩
def tab0 (l : Nat) : Bool := decide (Int.fdiv 16 (stT l : Int) = (szT l : Int)) && decide (1 ≤ stT l ∧ stT l ≤ 8 ∧ 2 ≤ szT l ∧ szT l ≤ 16) && decide (stT l * szT l = 16) && decide (l * szT l % 16 = 0) && decide ((wT l).length = szT l)
theorem tab0_ok : ∀ l ∈ (List.range 15).map (· + 1), tab0 l = true := by decide +kernel
def tab6 (l : Nat) : Bool := (List.range (szT l)).all fun i => decide (rT l i = (List.range (szT l)).map fun k => if zT l (i + k + 1) < zT l (i + k) then 65 else 97)
theorem tab6_ok : ∀ l ∈ (List.range 15).map (· + 1), tab6 l = true := by decide +kernel
structure Base (l : Nat) : Prop where
  fd : Int.fdiv 16 (stT l : Int) = (szT l : Int)
  s1 : 1 ≤ stT l
  s8 : stT l ≤ 8
  z2 : 2 ≤ szT l
  z16 : szT l ≤ 16
  mul : stT l * szT l = 16
  mod : l * szT l % 16 = 0
  wl : (wT l).length = szT l
theorem base {l : Nat} (h : okL l) : Base l := by
  have := tab0_ok l (memL h)
  unfold tab0 at this
  simp only [Bool.and_eq_true, decide_eq_true_eq] at this
  obtain ⟨⟨⟨⟨h1, h2, h3, h4, h5⟩, h6⟩, h7⟩, h8⟩ := this
  exact ⟨h1, h2, h3, h4, h5, h6, h7, h8⟩
theorem zT_mod {l n : Nat} (h : okL l) : zT l (n % szT l) = zT l n := by
  have hm := (base h).mod
  unfold zT
  have e : l * n = l * (n % szT l) + 16 * (l * szT l / 16 * (n / szT l)) := by
    have h1 : l * szT l = 16 * (l * szT l / 16) := by omega
    calc l * n = l * (n % szT l + szT l * (n / szT l)) := by rw [Nat.mod_add_div]
      _ = l * (n % szT l) + l * szT l * (n / szT l) := by rw [Nat.mul_add, Nat.mul_assoc]
      _ = l * (n % szT l) + 16 * (l * szT l / 16) * (n / szT l) := by rw [← h1]
      _ = _ := by rw [Nat.mul_assoc]
  rw [e]; omega
theorem zT_bnd {l n : Nat} (h : okL l) : zT l n + stT l ≤ 16 := by
  rw [← zT_mod h]
  have h5 := tab5_ok l (memL h)
  unfold tab5 at h5
  have := List.all_eq_true.mp h5 (n % szT l) (List.mem_range.mpr (Nat.mod_lt _ (by have := (base h).z2; omega)))
  simp only [Bool.and_eq_true, decide_eq_true_eq] at this
  exact this.1
theorem rT_eq {l i : Nat} (h : okL l) (hi : i < szT l) : rT l i = (List.range (szT l)).map fun k => if zT l (i + k + 1) < zT l (i + k) then 65 else 97 := by
  have h6 := tab6_ok l (memL h)
  unfold tab6 at h6
  simpa using List.all_eq_true.mp h6 i (List.mem_range.mpr hi)
theorem rT_len {l i : Nat} (h : okL l) (hi : i < szT l) : (rT l i).length = szT l := by rw [rT_eq h hi]; simp
theorem ltL_eq : ∀ a b : List Nat, ltL a b = decide (a < b)
  | [], [] => by simp [ltL]
  | [], _ :: _ => by simp [ltL]
  | _ :: _, [] => by simp [ltL]
  | a :: l, b :: r => by
    unfold ltL
    rw [ltL_eq l r]
    by_cases h1 : a < b
    · rw [if_pos h1]; simp [List.cons_lt_cons_iff, h1]
    · rw [if_neg h1]
      by_cases h2 : b < a
      · rw [if_pos h2]
        have : a ≠ b := by omega
        simp [List.cons_lt_cons_iff, h1, this]
      · rw [if_neg h2]
        have : a = b := by omega
        subst this
        simp [List.cons_lt_cons_iff]
theorem rT_lt {l i j : Nat} (h : okL l) (hi : i < szT l) (hj : j < szT l) : decide (rT l i < rT l j) = decide (zT l i > zT l j) := by
  have h3 := tab3_ok l (memL h)
  unfold tab3 at h3
  have := List.all_eq_true.mp (List.all_eq_true.mp h3 i (List.mem_range.mpr hi)) j (List.mem_range.mpr hj)
  rw [← ltL_eq]
  exact eq_of_beq this
theorem rT_df {l i j : Nat} (h : okL l) (hi : i < szT l) (hj : j < szT l) : dfT (rT l i) (rT l j) (szT l) = costT l (absT (zT l i) (zT l j)) := by
  have h3 := tab4_ok l (memL h)
  unfold tab4 at h3
  exact eq_of_beq (List.all_eq_true.mp (List.all_eq_true.mp h3 i (List.mem_range.mpr hi)) j (List.mem_range.mpr hj))
end
section
/-- the start's part of a place: start = 4 * (y * step) + rho -/
structure Cut (start l y first : Nat) : Prop where
  okl : okL l
  lo : 4 * (y * stT l) ≤ start
  hi : start < 4 * (y * stT l) + 4 * stT l
  yb : y < szT l
  fb : first < szT l
  at' : zT l first = y * stT l
theorem place_eq {start l y first : Nat} (C : Cut start l y first) (k : Nat) : placeAt start l k = ((4 * zT l (first + k) + (start - 4 * (y * stT l)) : Nat) : Int) := by
  have hb := zT_bnd (n := first + k) C.okl
  have h1 := C.lo
  have h2 := C.hi
  have h3 := C.at'
  unfold placeAt
  rw [Int.fmod_eq_emod_of_nonneg _ (by decide)]
  have e : (start : Int) + 4 * l * k = ((start + 4 * (l * k) : Nat) : Int) := by push_cast; rw [Int.mul_assoc]
  rw [e]
  unfold zT at *
  have e2 : l * (first + k) = l * first + l * k := Nat.mul_add ..
  rw [e2] at hb ⊢
  generalize l * first = a at *
  generalize l * k = b at *
  generalize y * stT l = d at *
  generalize stT l = t at *
  have e3 : start + 4 * b = 4 * (d + b) + (start - 4 * d) := by rw [Nat.mul_add, Nat.add_right_comm, Nat.add_sub_cancel' h1]
  have e4 : (a + b) % 16 = (d + b) % 16 := by rw [← h3, Nat.mod_add_mod]
  have e5 : 4 * ((d + b) % 16) + (start - 4 * d) < 64 := by
    rw [← e4]
    refine Nat.lt_of_lt_of_le (Nat.add_lt_add_left (Nat.sub_lt_left_of_lt_add h1 h2) _) ?_
    rw [← Nat.mul_add]; exact Nat.mul_le_mul_left 4 hb
  show (((start + 4 * b) % 64 : Nat) : Int) = _
  rw [e3, e4, ← Nat.mod_add_mod, show 4 * (d + b) % 64 = 4 * ((d + b) % 16) from Nat.mul_mod_mul_left 4 (d + b) 16, Nat.mod_eq_of_lt e5]
theorem cut_ok {start l : Nat} (hs : start < 64) (hl : okL l) : ∃ y first, Cut start l y first ∧ y = start / 4 / stT l := by
  have b := base hl
  have h1 := b.s1
  have hmul := b.mul
  have hy : start / 4 / stT l < szT l := by
    rw [Nat.div_lt_iff_lt_mul (by omega), Nat.mul_comm, hmul]; omega
  have h2 := tab2_ok l (memL hl)
  unfold tab2 at h2
  obtain ⟨k, hk, hz⟩ := List.any_eq_true.mp (List.all_eq_true.mp h2 _ (List.mem_range.mpr hy))
  have hd := Nat.div_add_mod (start / 4) (stT l)
  have hm := Nat.mod_lt (start / 4) (show 0 < stT l by omega)
  rw [Nat.mul_comm] at hd
  refine ⟨start / 4 / stT l, k, ⟨hl, ?_, ?_, hy, List.mem_range.mp hk, eq_of_beq hz⟩, rfl⟩
  · generalize start / 4 / stT l * stT l = d at *; omega
  · generalize start / 4 / stT l * stT l = d at *; omega
theorem St_append (a b : List Nat) : St a ++ St b = St (a ++ b) := St_app a b
theorem slice_from_nat {l : List Nat} {i : Nat} (h : i ≤ l.length) : Txt.slice (St l) (some (i : Int)) none = St (l.drop i) := by
  have := slice_from_St (l := l) (p := (i : Int)) (by omega) (by omega)
  simpa using this
def wlsT (l first : Nat) : List (List Nat) := (List.range (szT l)).map fun k => rT l ((first + k) % szT l)
theorem wlsT_len (l first : Nat) : (wlsT l first).length = szT l := by simp [wlsT]
theorem wlsT_at {l first k : Nat} (h : k < szT l) : (wlsT l first).getD k [] = rT l ((first + k) % szT l) := by
  unfold wlsT
  rw [List.getD_eq_getElem?_getD, List.getElem?_map]
  simp [h]
theorem fmod_nat (a b : Nat) : Int.fmod (a : Int) (b : Int) = ((a % b : Nat) : Int) := by
  rw [Int.fmod_eq_emod_of_nonneg _ (by omega)]; push_cast; rfl
theorem fdiv_nat (a b : Nat) : Int.fdiv (a : Int) (b : Int) = ((a / b : Nat) : Int) := by
  rw [Int.fdiv_eq_ediv_of_nonneg _ (by omega)]; push_cast; rfl
theorem rangeKs_nat (n : Nat) : rangeKs 0 n = (List.range n).map (fun (i : Nat) => (i : Int)) := by
  unfold rangeKs
  exact List.map_congr_left fun i _ => Int.zero_add _
end
section
theorem TL.thin {T : Int → Obj → Prop} {ks : List Int} {ys : List Value} {tl : List (Addr × Obj)} (h : TL T ks ys tl) (hT : ∀ k o, T k o → ∃ xs n, o.data = .seq xs n) :
    ∃ tl', TL T ks ys tl' ∧ (∀ p ∈ tl', p ∈ tl) ∧ ∀ p ∈ tl', ∃ xs n, p.2.data = .seq xs n := by
  classical
  refine ⟨tl.filter (fun p => decide (∃ xs n, p.2.data = .seq xs n)), ⟨h.len, fun i k hk => ?_, fun p hp => h.seq p (List.mem_filter.mp hp).1⟩, fun p hp => (List.mem_filter.mp hp).1, fun p hp => by simpa using (List.mem_filter.mp hp).2⟩
  obtain ⟨D, o, h1, h2, h3⟩ := h.at' i k hk
  exact ⟨D, o, h1, List.mem_filter.mpr ⟨h2, by simpa using hT k o h3⟩, h3⟩
theorem LSt.sub {h₀ : Heap} {L : Addr} {s₀ s : Shared} {vars : List (Str × Value)} {led led' : List (Addr × Obj)} {c1 c2 c3 c4 c5 c6 c7 c8 c9 c10 : Obj → Prop}
    (P : LSt h₀ L s₀ vars led c1 c2 c3 c4 c5 c6 c7 c8 c9 c10 s) (hs : ∀ p ∈ led', p ∈ led) : LSt h₀ L s₀ vars led' c1 c2 c3 c4 c5 c6 c7 c8 c9 c10 s := by
  obtain ⟨u, o1, o2, o3, o4, o5, o6, o7, o8, o9, o10, h, tk, rfl, F, N, d1, d2, d3, d4, d5, d6, d7, d8, d9, d10⟩ := P
  exact ⟨u, o1, o2, o3, o4, o5, o6, o7, o8, o9, o10, h, tk, rfl, F, News.sub N (fun p hp => (List.mem_append.mp hp).elim (fun h => List.mem_append_left _ h) fun h => List.mem_append_right _ (hs p h)), d1, d2, d3, d4, d5, d6, d7, d8, d9, d10⟩
theorem LSt.vars {h₀ : Heap} {L : Addr} {s₀ s : Shared} {vars vars' : List (Str × Value)} {led : List (Addr × Obj)} {c1 c2 c3 c4 c5 c6 c7 c8 c9 c10 : Obj → Prop}
    (P : LSt h₀ L s₀ vars led c1 c2 c3 c4 c5 c6 c7 c8 c9 c10 s) (hs : ∀ u : Str → Option Value, ∀ p ∈ vars', kstB u vars p.1 = some p.2) : LSt h₀ L s₀ vars' led c1 c2 c3 c4 c5 c6 c7 c8 c9 c10 s := by
  obtain ⟨u, o1, o2, o3, o4, o5, o6, o7, o8, o9, o10, h, tk, rfl, F, N, d1, d2, d3, d4, d5, d6, d7, d8, d9, d10⟩ := P
  exact ⟨kstB u vars, o1, o2, o3, o4, o5, o6, o7, o8, o9, o10, h, tk, rfl, fr_kst F (hs u), N, d1, d2, d3, d4, d5, d6, d7, d8, d9, d10⟩
theorem LSt.ne77 {h₀ : Heap} {L : Addr} {s₀ s : Shared} {vars : List (Str × Value)} {led : List (Addr × Obj)} {c1 c2 c3 c4 c5 c6 c7 c8 c9 c10 : Obj → Prop} {ps : Array Value} {p : Addr × Obj}
    (P : LSt h₀ L s₀ vars led c1 c2 c3 c4 c5 c6 c7 c8 c9 c10 s) (h7 : (77, tabObj ps) ∈ led) (hp : p ∈ led) (hd : ∃ xs n, p.2.data = .seq xs n) : p.1 ≠ 77 := fun e => by
  obtain ⟨u, o1, o2, o3, o4, o5, o6, o7, o8, o9, o10, h, tk, rfl, F, N, _⟩ := P
  have h1 := (N _ (List.mem_append_right _ h7)).1
  have h2 := (N _ (List.mem_append_right _ hp)).1
  dsimp only at h1
  rw [e, h1] at h2
  obtain ⟨xs, n, hd⟩ := hd
  have h3 := Option.some.inj h2
  rw [← h3] at hd
  cases hd
/-- one statement of the law, then the rest -/
theorem law_cut {w : World} {L fa : Addr} {cd : Value} {s : Shared} {E : Value → Shared → Prop} {Q : Flow → Shared → Prop} (j : Nat) {R : Shared → Prop} (hs : 0 < s.toks)
    (h : wpAny (model PG w) (lawA L fa cd) (execs (stm j) (lawEnv L fa cd)) (fun f s' => f = .next ∧ R s') E s)
    (k : ∀ s', 0 < s'.toks → R s' → wpAny (model PG w) (lawA L fa cd) (execs (lawDef.1.drop (j + 1)) (lawEnv L fa cd)) Q E s') :
    wpAny (model PG w) (lawA L fa cd) (execs (lawDef.1.drop j) (lawEnv L fa cd)) Q E s := by
  refine execs_at 1 (fun s' => 0 < s'.toks ∧ R s') ?_ (fun s' h' => ?_)
  · refine wpAny_with_toks (n := 1) hs ?_
    refine wpAny_mono h (fun f s' h' => ?_) (fun _ _ h' _ => h')
    obtain ⟨rfl, hR⟩ := h'
    intro ht
    exact ⟨ht, hR⟩
  · rw [List.drop_drop]
    exact k s' h'.1 h'.2
theorem law_cut0 {w : World} {L fa : Addr} {cd : Value} {s : Shared} {E : Value → Shared → Prop} {Q : Flow → Shared → Prop} (j : Nat) {R : Shared → Prop}
    (h : wpAny (model PG w) (lawA L fa cd) (execs (stm j) (lawEnv L fa cd)) (fun f s' => f = .next ∧ R s') E s)
    (k : ∀ s', R s' → wpAny (model PG w) (lawA L fa cd) (execs (lawDef.1.drop (j + 1)) (lawEnv L fa cd)) Q E s') :
    wpAny (model PG w) (lawA L fa cd) (execs (lawDef.1.drop j) (lawEnv L fa cd)) Q E s := by
  refine execs_at 1 R ?_ (fun s' h' => ?_)
  · exact wpAny_mono h (fun f s' h' => by obtain ⟨rfl, hR⟩ := h'; exact hR) (fun _ _ h' => h')
  · rw [List.drop_drop]
    exact k s' h'
theorem bind_one {g : Str → Option Value} {n : Str} {v : Value} (h : g n = some v) : ∀ p ∈ [(n, v)], g p.1 = some p.2 := fun p hp => by
  rcases List.mem_cons.mp hp with rfl | hp
  · exact h
  · cases hp
theorem cells_rev {L : Addr} {o1 o2 o3 o4 o5 o6 o7 o8 o9 o10 : Obj} {x : Addr × Obj} : ∀ p ∈ cells L o10 o9 o8 o7 o6 o5 o4 o3 o2 o1 ++ [x], p ∈ [(L + 1 + 1 + 1 + 1 + 1 + 1 + 1 + 1 + 1 + 1, o1), (L + 1 + 1 + 1 + 1 + 1 + 1 + 1 + 1 + 1, o2), (L + 1 + 1 + 1 + 1 + 1 + 1 + 1 + 1, o3), (L + 1 + 1 + 1 + 1 + 1 + 1 + 1, o4), (L + 1 + 1 + 1 + 1 + 1 + 1, o5), (L + 1 + 1 + 1 + 1 + 1, o6), (L + 1 + 1 + 1 + 1, o7), (L + 1 + 1 + 1, o8), (L + 1 + 1, o9), (L + 1, o10), x] := fun p hp => by
  show p ∈ ([(L + 1 + 1 + 1 + 1 + 1 + 1 + 1 + 1 + 1 + 1, o1), (L + 1 + 1 + 1 + 1 + 1 + 1 + 1 + 1 + 1, o2), (L + 1 + 1 + 1 + 1 + 1 + 1 + 1 + 1, o3), (L + 1 + 1 + 1 + 1 + 1 + 1 + 1, o4), (L + 1 + 1 + 1 + 1 + 1 + 1, o5), (L + 1 + 1 + 1 + 1 + 1, o6), (L + 1 + 1 + 1 + 1, o7), (L + 1 + 1 + 1, o8), (L + 1 + 1, o9), (L + 1, o10)] : List (Addr × Obj)) ++ [x]
  rcases List.mem_append.mp hp with h | h
  · exact List.mem_append_left [x] (List.mem_reverse.mp h)
  · exact List.mem_append_right _ h
end
section
abbrev plOf (start leap size : Int) : List Int := (rangeKs 0 (size + 1 - 0).toNat).map (placeAt start leap)
structure PlainOk (start leap step size first : Int) (fr : List Int) (wls : List (List Nat)) (word : Str) : Prop where
  hstep : (eu 16 leap (16 - leap) []).2 = step
  hsize : Int.fdiv 16 step = size
  hl : 1 ≤ leap ∧ leap ≤ 15
  hs : 0 ≤ start ∧ start < 64
  ht : 1 ≤ step ∧ step ≤ 8
  hz : 2 ≤ size ∧ size ≤ 16
  hbl : (eu 16 leap (16 - leap) []).1.length ≤ 16
  hok : okChain (Str.ofString "aA") (eu 16 leap (16 - leap) []).1 = true
  hword : (eu 16 leap (16 - leap) []).1.foldl stepR (Str.ofString "aA") = word
  hw : (word.length : Int) = size
  hf : (rangeKs 0 (size - 0).toNat).foldl (firstG start leap step) [] = first :: fr
  hfb : 0 ≤ first ∧ first < size
  hwalk : Txt.join (Str.ofString "") ((rangeKs 0 (size - 0).toNat).map (walkCh start leap)) = St (wls.getD 0 [])
  hwords : (rangeKs 0 (size - 0).toNat).map (wordAt word first size) = wls.map St
  hwl : (wls.length : Int) = size
  hwz : ∀ n : Nat, (wls.getD n []).length ≤ 16
  hsim : ∀ n k : Nat, n < wls.length → k < wls.length → Sim (dressL (wls.getD n [])) (dressL (wls.getD k []))
  hham : ∀ k : Int, costOf leap step (gapOf (plOf start leap size) size k) = ham (dressL (wls.getD (k.fmod size).toNat [])) (dressL (wls.getD ((k.fdiv size).fmod size).toNat []))
  hgt : ∀ a : Int, 0 ≤ a → a < size → (rangeKs 0 (size - 0).toNat).filter (fun k => partLt (wls.map St) a k) = (rangeKs 0 (size - 0).toNat).filter (fun k => decide ((plOf start leap size).getD k.toNat 0 > (plOf start leap size).getD a.toNat 0))
  hle : ∀ a : Int, 0 ≤ a → a < size → (rangeKs 0 (size - 0).toNat).filter (fun k => !partLt (wls.map St) a k) = (rangeKs 0 (size - 0).toNat).filter (fun k => decide ((plOf start leap size).getD k.toNat 0 ≤ (plOf start leap size).getD a.toNat 0))
end
section
theorem slice_to_nat {l : List Nat} {i : Nat} (h : i ≤ l.length) : Txt.slice (St l) none (some (i : Int)) = St (l.take i) := by
  have := slice_closes_toL (x := St l) (j := (i : Int)) (by omega) (by rw [St_length]; omega)
  rw [beq_iff_eq] at this
  rw [this]
  unfold St
  congr 1
theorem cut_first {start l y first : Nat} (hs : start < 64) (hl : okL l) : ∃ y first fr, Cut start l y first ∧ y = start / 4 / stT l ∧ (List.range (szT l)).filter (fun k => zT l k == y * stT l) = first :: fr := by
  obtain ⟨y, f0, C, hy⟩ := cut_ok hs hl
  cases hf : (List.range (szT l)).filter (fun k => zT l k == y * stT l) with
  | nil =>
    exfalso
    have : f0 ∈ (List.range (szT l)).filter (fun k => zT l k == y * stT l) := List.mem_filter.mpr ⟨List.mem_range.mpr C.fb, by rw [C.at']; simp⟩
    rw [hf] at this; cases this
  | cons f fr =>
    have : f ∈ (List.range (szT l)).filter (fun k => zT l k == y * stT l) := by rw [hf]; exact .head _
    obtain ⟨h1, h2⟩ := List.mem_filter.mp this
    exact ⟨y, f, fr, ⟨C.okl, C.lo, C.hi, C.yb, List.mem_range.mp h1, eq_of_beq h2⟩, hy, hf⟩
theorem first_eq {start l y : Nat} (hy : y = start / 4 / stT l) (hl : okL l) (hyb : y < szT l) : (rangeKs 0 ((szT l : Int) - 0).toNat).foldl (firstG start l (stT l)) [] = ((List.range (szT l)).filter (fun k => zT l k == y * stT l)).map (fun (i : Nat) => (i : Int)) := by
  have e : (firstG (start : Int) l (stT l)) = fun L k => if ((l : Int) * k - ((start : Int).fdiv 4).fdiv (stT l) * (stT l)).fmod 16 = 0 then L ++ [k] else L := rfl
  have b := base hl
  have hb := b.mul
  rw [e, foldl_filter, List.nil_append, show ((szT l : Int) - 0).toNat = szT l by omega, rangeKs_nat, List.filter_map]
  congr 1
  refine List.filter_congr fun i _ => ?_
  have e1 : ((start : Int).fdiv 4).fdiv (stT l) * (stT l : Int) = ((y * stT l : Nat) : Int) := by
    rw [show ((4 : Int)) = ((4 : Nat) : Int) from rfl, fdiv_nat, fdiv_nat, hy]; push_cast; rfl
  show decide (((l : Int) * (i : Int) - ((start : Int).fdiv 4).fdiv (stT l) * (stT l)).fmod 16 = 0) = (zT l i == y * stT l)
  rw [e1, Int.fmod_eq_emod_of_nonneg _ (by decide)]
  have hlt : y * stT l < 16 := by
    rw [← hb, Nat.mul_comm]; exact Nat.mul_lt_mul_of_pos_left hyb (by have := b.s1; omega)
  unfold zT
  have e2 : (l : Int) * (i : Int) = ((l * i : Nat) : Int) := by push_cast; rfl
  rw [e2]
  generalize y * stT l = d at *
  generalize l * i = x at *
  rw [Bool.eq_iff_iff]
  simp only [decide_eq_true_eq, beq_iff_eq]
  rw [← Int.emod_eq_emod_iff_emod_sub_eq_zero]
  show ((x % 16 : Nat) : Int) = ((d % 16 : Nat) : Int) ↔ _
  rw [Int.ofNat_inj, Nat.mod_eq_of_lt hlt]
def tabC (l : Nat) : Bool := (List.range 17).all fun g => costOf l (stT l) (g : Int) == ((costT l g : Nat) : Int)
theorem tabC_ok : ∀ l ∈ (List.range 15).map (· + 1), tabC l = true := by decide +kernel
theorem cost_eq {l g : Nat} (hl : okL l) (hg : g ≤ 16) : costOf l (stT l) (g : Int) = ((costT l g : Nat) : Int) :=
  eq_of_beq (List.all_eq_true.mp (tabC_ok l (memL hl)) g (List.mem_range.mpr (by omega)))
theorem pl_nat {start l y first : Nat} (C : Cut start l y first) {k : Nat} (hk : k ≤ szT l) : (plOf start l (szT l)).getD k 0 = ((4 * zT l (first + k) + (start - 4 * (y * stT l)) : Nat) : Int) := by
  have e : (szT l + 1 - 0 : Int).toNat = szT l + 1 := by omega
  unfold plOf
  rw [show ((szT l : Int) + 1 - 0).toNat = szT l + 1 by omega, rangeKs_nat, List.map_map, List.getD_eq_getElem?_getD, List.getElem?_map, List.getElem?_range (by omega)]
  exact place_eq C k
theorem gap_lem (a b r : Nat) : Int.fdiv (if ((4 * a + r : Nat) : Int) - ((4 * b + r : Nat) : Int) < 0 then -(((4 * a + r : Nat) : Int) - ((4 * b + r : Nat) : Int)) else ((4 * a + r : Nat) : Int) - ((4 * b + r : Nat) : Int)) 4 = (((a - b) + (b - a) : Nat) : Int) := by
  have e : ((4 * a + r : Nat) : Int) - ((4 * b + r : Nat) : Int) = 4 * ((a : Int) - b) := by
    rw [Int.natCast_add, Int.natCast_add, Int.add_sub_add_right, Int.natCast_mul, Int.natCast_mul, Int.mul_sub]; rfl
  have e2 : -(4 * ((a : Int) - b)) = 4 * ((b : Int) - a) := by rw [← Int.mul_neg, Int.neg_sub]
  rw [e, e2]
  rcases Nat.lt_or_ge a b with h | h
  · rw [if_pos (Int.mul_neg_of_pos_of_neg (by decide) (Int.sub_neg_of_lt (Int.ofNat_lt.mpr h))), Int.mul_fdiv_cancel_left _ (by decide), Nat.sub_eq_zero_of_le (Nat.le_of_lt h), Nat.zero_add]
    exact (Int.ofNat_sub (Nat.le_of_lt h)).symm
  · rw [if_neg (Int.not_lt.mpr (Int.mul_nonneg (by decide) (Int.sub_nonneg_of_le (Int.ofNat_le.mpr h)))), Int.mul_fdiv_cancel_left _ (by decide), Nat.sub_eq_zero_of_le h, Nat.add_zero]
    exact (Int.ofNat_sub h).symm
theorem tn_lt {a : Int} {z : Nat} (h : 0 ≤ a ∧ a < z) : a.toNat < z := by omega
theorem gap_nat {start l y first : Nat} (C : Cut start l y first) (k : Int) : gapOf (plOf start l (szT l)) (szT l) k = ((absT (zT l (first + (k.fmod (szT l)).toNat)) (zT l (first + ((k.fdiv (szT l)).fmod (szT l)).toNat)) : Nat) : Int) := by
  have hp : (0 : Int) < (szT l : Int) := Int.ofNat_lt.mpr (Nat.lt_of_lt_of_le (by decide) (base C.okl).z2)
  have h1 := Nat.le_of_lt (tn_lt (fmodb k (szT l) hp))
  have h2 := Nat.le_of_lt (tn_lt (fmodb (k.fdiv (szT l)) (szT l) hp))
  unfold gapOf absT
  rw [pl_nat C h1, pl_nat C h2]
  exact gap_lem _ _ _
theorem wls_getD {l first k : Nat} (h : k < szT l) : (wlsT l first).getD k [] = rT l ((first + k) % szT l) := wlsT_at h
theorem str_at {l : Nat} {first k : Nat} (h : k < szT l) : (((wlsT l first).map St).getD k (Str.ofString "")).cps.toList = rT l ((first + k) % szT l) := by
  rw [List.getD_eq_getElem?_getD, List.getElem?_map]
  have := wlsT_at (l := l) (first := first) h
  rw [List.getD_eq_getElem?_getD] at this
  have h1 : k < (wlsT l first).length := by rw [wlsT_len]; exact h
  rw [List.getElem?_eq_getElem h1] at this ⊢
  simp only [Option.map_some, Option.getD_some] at this ⊢
  rw [this]; simp [St]
theorem part_nat {start l y first : Nat} (C : Cut start l y first) {a k : Int} (ha : 0 ≤ a ∧ a < szT l) (hk : 0 ≤ k ∧ k < szT l) :
    partLt ((wlsT l first).map St) a k = decide ((plOf start l (szT l)).getD k.toNat 0 > (plOf start l (szT l)).getD a.toNat 0) := by
  have hz := (base C.okl).z2
  unfold partLt
  rw [str_at (by omega), str_at (by omega), rT_lt C.okl (Nat.mod_lt _ (by omega)) (Nat.mod_lt _ (by omega)), zT_mod C.okl, zT_mod C.okl, pl_nat C (by omega), pl_nat C (by omega)]
  generalize zT l (first + k.toNat) = p at *
  generalize zT l (first + a.toNat) = q at *
  generalize start - 4 * (y * stT l) = r at *
  rw [Bool.eq_iff_iff]
  simp only [decide_eq_true_eq]
  omega
theorem walk_nat {start l y first : Nat} (C : Cut start l y first) (k : Nat) : walkCh start l (k : Int) = St [if zT l (first + k + 1) < zT l (first + k) then 65 else 97] := by
  have eA : St [65] = Str.ofString "A" := by decide +kernel
  have ea : St [97] = Str.ofString "a" := by decide +kernel
  have hb1 := zT_bnd (n := first + k) C.okl
  have hb2 := zT_bnd (n := first + (k + 1)) C.okl
  have hr : start - 4 * (y * stT l) < 4 * stT l := by have := C.hi; have := (base C.okl).s1; omega
  unfold walkCh toldAt
  dsimp only
  rw [show ((k : Int) + 1) = ((k + 1 : Nat) : Int) by push_cast; rfl, place_eq C, place_eq C, show first + (k + 1) = first + k + 1 from rfl] at *
  generalize zT l (first + k) = p at *
  generalize zT l (first + k + 1) = q at *
  generalize start - 4 * (y * stT l) = r at *
  generalize stT l = t at *
  rw [qf_Ef (c := ((8 * (4 * q + r) : Nat) : Int)) (by decide) (by push_cast; omega) (by omega), qf_Ef (c := ((8 * (4 * p + r) : Nat) : Int)) (by decide) (by push_cast; omega) (by omega), Ef_lt ⟨by omega, by omega⟩ ⟨by omega, by omega⟩]
  by_cases h : q < p
  · rw [if_pos (by simp only [decide_eq_true_eq]; omega), if_pos h, eA]
  · rw [if_neg (by simp only [decide_eq_true_eq]; omega), if_neg h, ea]
theorem abs16 {a b t : Nat} (h1 : a + t ≤ 16) (h2 : b + t ≤ 16) : absT a b ≤ 16 := by unfold absT; omega
theorem plain_ok (start leap : Int) (hs : 0 ≤ start ∧ start < 64) (hl : 1 ≤ leap ∧ leap ≤ 15) : ∃ step size first fr wls word, PlainOk start leap step size first fr wls word := by
  obtain ⟨st, rfl⟩ : ∃ n : Nat, start = n := ⟨start.toNat, by omega⟩
  obtain ⟨l, rfl⟩ : ∃ n : Nat, leap = n := ⟨leap.toNat, by omega⟩
  have hL : okL l := ⟨by omega, by omega⟩
  obtain ⟨y, first, fr, C, hy, hfil⟩ := cut_first (y := 0) (first := 0) (show st < 64 by omega) hL
  have b := base hL
  have hz2 := b.z2
  have hp : 0 < szT l := Nat.lt_of_lt_of_le (by decide) hz2
  have hpi : (0 : Int) < (szT l : Int) := Int.ofNat_lt.mpr hp
  have h1 := tab1_ok l (memL hL)
  unfold tab1 at h1
  simp only [Bool.and_eq_true, decide_eq_true_eq, beq_iff_eq] at h1
  obtain ⟨⟨⟨h1a, h1b⟩, h1c⟩, h1d⟩ := h1
  have hsz : ((szT l : Int) - 0).toNat = szT l := by omega
  refine ⟨stT l, szT l, first, fr.map (fun (i : Nat) => (i : Int)), wlsT l first, St (wT l), ?_⟩
  exact
    { hstep := h1a
      hsize := b.fd
      hl := hl
      hs := hs
      ht := ⟨Int.ofNat_le.mpr b.s1, Int.ofNat_le.mpr b.s8⟩
      hz := ⟨Int.ofNat_le.mpr hz2, Int.ofNat_le.mpr b.z16⟩
      hbl := h1b
      hok := h1c
      hword := h1d
      hw := by rw [St_length, b.wl]
      hf := by rw [first_eq hy hL C.yb, hfil]; rfl
      hfb := ⟨Int.natCast_nonneg _, Int.ofNat_lt.mpr C.fb⟩
      hwalk := by
        rw [hsz, rangeKs_nat, List.map_map, wls_getD hp, Nat.add_zero, Nat.mod_eq_of_lt C.fb, rT_eq hL C.fb, ← glued_chars, List.map_map]
        congr 1
        exact List.map_congr_left fun k _ => walk_nat C k
      hwords := by
        rw [hsz, rangeKs_nat, List.map_map]
        unfold wlsT
        rw [List.map_map]
        refine List.map_congr_left fun k _ => ?_
        show wordAt (St (wT l)) first (szT l) (k : Int) = St (rT l ((first + k) % szT l))
        unfold wordAt rT
        have hlt : (first + k) % szT l ≤ (wT l).length := by rw [b.wl]; exact Nat.le_of_lt (Nat.mod_lt _ hp)
        rw [show (first : Int) + (k : Int) = ((first + k : Nat) : Int) by push_cast; rfl, fmod_nat, slice_from_nat hlt, slice_to_nat hlt, St_append]
      hwl := by rw [wlsT_len]
      hwz := fun n => by
        by_cases h : n < szT l
        · rw [wls_getD h, rT_len hL (Nat.mod_lt _ hp)]; exact b.z16
        · rw [List.getD_eq_getElem?_getD, List.getElem?_eq_none (by rw [wlsT_len]; omega)]; simp
      hsim := fun n k hn hk => by
        rw [wlsT_len] at hn hk
        rw [wls_getD hn, wls_getD hk]
        refine sim_dress ?_ ?_
        · rw [rT_len hL (Nat.mod_lt _ hp), rT_len hL (Nat.mod_lt _ hp)]
        · rw [rT_len hL (Nat.mod_lt _ hp)]; exact b.z16
      hham := fun k => by
        have g1 := fmodb k (szT l) hpi
        have g2 := fmodb (k.fdiv (szT l)) (szT l) hpi
        have q1 := tn_lt g1
        have q2 := tn_lt g2
        have hb1 := zT_bnd (n := first + (k.fmod (szT l)).toNat) hL
        have hb2 := zT_bnd (n := first + ((k.fdiv (szT l)).fmod (szT l)).toNat) hL
        rw [gap_nat C, cost_eq hL (abs16 hb1 hb2), wls_getD q1, wls_getD q2, ham_dress (by rw [rT_len hL (Nat.mod_lt _ hp), rT_len hL (Nat.mod_lt _ hp)]) (by rw [rT_len hL (Nat.mod_lt _ hp)]; exact b.z16),
          rT_len hL (Nat.mod_lt _ hp), rT_df hL (Nat.mod_lt _ hp) (Nat.mod_lt _ hp), zT_mod hL, zT_mod hL]
      hgt := fun a h0 h2 => by
        refine List.filter_congr fun k hk => ?_
        rw [hsz] at hk
        have := mem_rangeKs hk
        exact part_nat C ⟨h0, h2⟩ ⟨by omega, by omega⟩
      hle := fun a h0 h2 => by
        refine List.filter_congr fun k hk => ?_
        rw [hsz] at hk
        have := mem_rangeKs hk
        rw [part_nat C ⟨h0, h2⟩ ⟨by omega, by omega⟩, Bool.eq_iff_iff]
        simp only [Bool.not_eq_true', decide_eq_false_iff_not, decide_eq_true_eq]
        omega }
end
section
theorem pl_at {start leap size k : Int} (h0 : 0 ≤ k) (h1 : k ≤ size) : (plOf start leap size).getD k.toNat 0 = placeAt start leap k := by
  have h2 : (rangeKs 0 (size + 1 - 0).toNat)[k.toNat]? = some k := by
    have := rangeKs_at (n := (size + 1 - 0).toNat) (i := k.toNat) (by omega)
    rwa [show (0 : Int) + (k.toNat : Int) = k by omega] at this
  rw [List.getD_eq_getElem?_getD, List.getElem?_map, h2]
  rfl
theorem pl_len {start leap size : Int} (h : 0 ≤ size) : ((plOf start leap size).length : Int) = size + 1 := by
  unfold plOf
  rw [List.length_map, rangeKs_length]; omega
theorem pl_bnd {start leap size : Int} : ∀ x ∈ plOf start leap size, 0 ≤ x ∧ x < 64 := fun x hx => by
  obtain ⟨k, _, rfl⟩ := List.mem_map.mp hx
  exact fmodb _ 64 (by decide)
theorem pl_getD {start leap size : Int} (n : Nat) : 0 ≤ (plOf start leap size).getD n 0 ∧ (plOf start leap size).getD n 0 < 64 := by
  rw [List.getD_eq_getElem?_getD]
  cases h : (plOf start leap size)[n]? with
  | none => simp
  | some x => exact pl_bnd x (List.mem_of_getElem? h)
theorem gap_bnd {start leap size k : Int} : 0 ≤ gapOf (plOf start leap size) size k ∧ gapOf (plOf start leap size) size k ≤ 16 := by
  have h1 := pl_getD (start := start) (leap := leap) (size := size) (k.fmod size).toNat
  have h2 := pl_getD (start := start) (leap := leap) (size := size) ((k.fdiv size).fmod size).toNat
  unfold gapOf
  generalize (plOf start leap size).getD (k.fmod size).toNat 0 = a at *
  generalize (plOf start leap size).getD ((k.fdiv size).fmod size).toNat 0 = b at *
  rw [Int.fdiv_eq_ediv_of_nonneg _ (by decide)]
  split <;> omega
theorem draws_len (ns : List Int) : (drawsOf ns).length = 6 := by
  unfold drawsOf
  simp only [List.length_append, List.length_map, List.length_take, List.length_drop, List.length_cons, List.length_nil]
  omega
theorem nc_app {a b : List (Addr × Obj)} (ha : ∀ p ∈ a, NoCell p.2) (hb : ∀ p ∈ b, NoCell p.2) : ∀ p ∈ a ++ b, NoCell p.2 := fun p hp => (List.mem_append.mp hp).elim (ha p) (hb p)
theorem nc_cons {a : Addr × Obj} {b : List (Addr × Obj)} (ha : NoCell a.2) (hb : ∀ p ∈ b, NoCell p.2) : ∀ p ∈ a :: b, NoCell p.2 := fun p hp => by
  rcases List.mem_cons.mp hp with rfl | hp
  · exact ha
  · exact hb p hp
theorem strs_head {vs : List Value} {x : Str} {xs : List Str} (h : StrsAre vs (x :: xs)) : ∃ t r, vs = .str x t :: r := by
  cases h with
  | cons y t r => exact ⟨t, _, rfl⟩
theorem kv1 {w1 w2 w3 : Value} (u : Str → Option Value) : ∀ p ∈ [(Str.ofString "walked", w1), (Str.ofString "draws", w3)], kstB u [(Str.ofString "walked", w1), (Str.ofString "pairs", w2), (Str.ofString "draws", w3)] p.1 = some p.2 := by
  intro p hp
  rcases List.mem_cons.mp hp with rfl | hp
  · rfl
  rcases List.mem_cons.mp hp with rfl | hp
  · rfl
  cases hp
theorem kv2 {w1 w2 w3 : Value} (u : Str → Option Value) : ∀ p ∈ [(Str.ofString "asked", w1), (Str.ofString "walked", w2)], kstB u [(Str.ofString "asked", w1), (Str.ofString "walked", w2), (Str.ofString "draws", w3)] p.1 = some p.2 := by
  intro p hp
  rcases List.mem_cons.mp hp with rfl | hp
  · rfl
  rcases List.mem_cons.mp hp with rfl | hp
  · rfl
  cases hp
theorem kv3 {w1 w2 w3 w4 : Value} (u : Str → Option Value) : ∀ p ∈ [(Str.ofString "costs", w1), (Str.ofString "asked", w3), (Str.ofString "walked", w4)], kstB u [(Str.ofString "costs", w1), (Str.ofString "gaps", w2), (Str.ofString "asked", w3), (Str.ofString "walked", w4)] p.1 = some p.2 := by
  intro p hp
  rcases List.mem_cons.mp hp with rfl | hp
  · rfl
  rcases List.mem_cons.mp hp with rfl | hp
  · rfl
  rcases List.mem_cons.mp hp with rfl | hp
  · rfl
  cases hp
theorem kv4 {w1 w2 w3 : Value} (u : Str → Option Value) : ∀ p ∈ [(Str.ofString "costs", w1), (Str.ofString "asked", w2)], kstB u [(Str.ofString "costs", w1), (Str.ofString "asked", w2), (Str.ofString "walked", w3)] p.1 = some p.2 := by
  intro p hp
  rcases List.mem_cons.mp hp with rfl | hp
  · rfl
  rcases List.mem_cons.mp hp with rfl | hp
  · rfl
  cases hp
section
variable {w : World} {loose : List Str} {mean : ExcName → Option Value} {mg mb : Str → Option Value} {h₀ : Heap} {L fa : Addr} {cd : Value} {s₀ s : Shared} {E : Value → Shared → Prop}
theorem law_main {scr : Addr} {ns : List Int} {sv : List Value} (B : Below callerA h₀ [] h₀) (X : (hd.heap_39 w.params).In h₀) (T : Top topProg loose mean mg mb h₀) (hC : CodeHd h₀ 81 77)
    (hscr : h₀.IsList scr sv.toArray) (hI : IntsAre sv ns) (hn : ns.length ≤ 63)
    (P : LSt h₀ L s₀ [(Str.ofString "script", .ref scr)] [(77, tabObj #[])] CA CA CA CA CA CA CA CA CA CA s) :
    wpAny (model PG w) (lawA L fa cd) (execs lawDef.1 (lawEnv L fa cd)) (fun f s' => f = .ret (.bool true) ∧ ∃ h' tk', s' = { s₀ with heap := h', toks := tk' } ∧ (∃ m, Fr h₀ L h' m) ∧ GrownAll [(81, 77)] h') E s := by
  show wpAny _ _ (execs (lawDef.1.drop 0) _) _ _ _
  refine gen_post fun Q9 hQ9 => ?_
  have nc0 : ∀ p ∈ [((77 : Addr), tabObj #[])], NoCell p.2 := nc_cons noCell_tab (fun p hp => nomatch hp)
  refine law_cut0 0 (law_s0 B X T nc0 hscr hI hn P) fun s H => ?_
  unfold Halt at H
  obtain ⟨D, us, c, hU, P⟩ := H
  have nc1 := nc_cons (a := (D, listOf us.toArray c)) noCell_seq nc0
  have hl6 := draws_len ns
  generalize drawsOf ns = ds at hU hl6
  have mD : (D, listOf us.toArray c) ∈ (D, listOf us.toArray c) :: [((77 : Addr), tabObj #[])] := .head _
  have m7 : ((77 : Addr), tabObj #[]) ∈ (D, listOf us.toArray c) :: [((77 : Addr), tabObj #[])] := .tail _ (.head _)
  generalize (D, listOf us.toArray c) :: [((77 : Addr), tabObj #[])] = l1 at *
  refine law_cut0 1 (law_s1 (scr := scr) B X T nc1 mD hU hl6 P) fun s H => ?_
  obtain ⟨htk, P⟩ := H
  have hs := fmodb (ds.getD 0 0) 64 (by decide)
  generalize (ds.getD 0 0).fmod 64 = start at *
  refine law_cut 2 htk (law_s2 (scr := scr) B X T nc1 mD hU hl6 P) fun s htk P => ?_
  have hl0 := fmodb (ds.getD 1 0) 15 (by decide)
  have hl : 1 ≤ (ds.getD 1 0).fmod 15 + 1 ∧ (ds.getD 1 0).fmod 15 + 1 ≤ 15 := by omega
  generalize (ds.getD 1 0).fmod 15 + 1 = leap at *
  obtain ⟨step, size, first, fr, wls, word, K⟩ := plain_ok start leap hs hl
  refine law_cut 3 htk (law_s3 (scr := scr) (us := us) (c := c) (ds := ds) B X T nc1 hl P) fun s htk H => ?_
  unfold Halt at H
  obtain ⟨P', pv, np, hPv, P⟩ := H
  rw [K.hstep] at P
  have nc2 := nc_cons (a := (P', listOf pv.toArray np)) noCell_seq nc1
  have mP : (P', listOf pv.toArray np) ∈ (P', listOf pv.toArray np) :: l1 := .head _
  have mD := List.Mem.tail (P', listOf pv.toArray np) mD
  have m7 := List.Mem.tail (P', listOf pv.toArray np) m7
  generalize (P', listOf pv.toArray np) :: l1 = l2 at *
  refine law_cut 4 htk (law_s4 (scr := scr) B X T nc2 K.ht P) fun s htk P => ?_
  rw [K.hsize] at P
  refine law_cut 5 htk (law_s5 (scr := scr) B X T nc2 hs hl ⟨by have := K.hz; omega, K.hz.2⟩ P) fun s htk H => ?_
  obtain ⟨Dp, vp, hvp, P⟩ := H
  have nc3 := nc_cons (a := (Dp, LCg.lst vp)) noCell_seq nc2
  have mp : (Dp, LCg.lst vp) ∈ (Dp, LCg.lst vp) :: l2 := .head _
  have mP := List.Mem.tail (Dp, LCg.lst vp) mP
  have mD := List.Mem.tail (Dp, LCg.lst vp) mD
  have m7 := List.Mem.tail (Dp, LCg.lst vp) m7
  generalize (Dp, LCg.lst vp) :: l2 = l3 at *
  refine law_cut 6 htk (law_s6 (scr := scr) B X T nc3 hs hl K.hz htk P) fun s htk H => ?_
  unfold Halt at H
  obtain ⟨Dt, yt, tl, hTt, P⟩ := H
  have nc4 := nc_cons (a := (Dt, LCg.lst yt)) noCell_seq (nc_app hTt.seq nc3)
  have mt : (Dt, LCg.lst yt) ∈ (Dt, LCg.lst yt) :: (tl ++ l3) := .head _
  have mtl : ∀ p ∈ tl, p ∈ (Dt, LCg.lst yt) :: (tl ++ l3) := fun p hp => .tail _ (List.mem_append_left _ hp)
  have mp := List.Mem.tail (Dt, LCg.lst yt) (List.mem_append_right tl mp)
  have mP := List.Mem.tail (Dt, LCg.lst yt) (List.mem_append_right tl mP)
  have mD := List.Mem.tail (Dt, LCg.lst yt) (List.mem_append_right tl mD)
  have m7 := List.Mem.tail (Dt, LCg.lst yt) (List.mem_append_right tl m7)
  generalize (Dt, LCg.lst yt) :: (tl ++ l3) = l4 at *
  refine law_cut 7 htk (law_s7 (scr := scr) B X T nc4 hs hl K.hz hTt mt mtl P) fun s htk H => ?_
  unfold Halt at H
  obtain ⟨tw, P⟩ := H
  rw [K.hwalk] at P
  refine law_cut 8 htk (law_s8 (scr := scr) B X T nc4 mP hPv K.hbl K.hok P) fun s htk P => ?_
  unfold Halt at P
  rw [K.hword] at P
  have P := LSt.vars (vars' := [(Str.ofString "walked", .str (St (wls.getD 0 [])) tw), (Str.ofString "draws", .ref D)]) P kv1
  refine law_cut 9 htk (law_s9 (scr := scr) B X T nc4 hs hl K.ht K.hz K.hf P) fun s htk P => ?_
  unfold Halt at P
  refine law_cut 10 htk (law_s10 (scr := scr) B X T nc4 hs hl K.ht K.hz K.hw K.hfb P) fun s htk H => ?_
  obtain ⟨Dw, vw, hvw, P⟩ := H
  rw [K.hwords] at hvw
  have nc5 := nc_cons (a := (Dw, LCg.lst vw)) noCell_seq nc4
  have mw : (Dw, LCg.lst vw) ∈ (Dw, LCg.lst vw) :: l4 := .head _
  have mt := List.Mem.tail (Dw, LCg.lst vw) mt
  have mtl : ∀ p ∈ tl, p ∈ (Dw, LCg.lst vw) :: l4 := fun p hp => .tail _ (mtl p hp)
  have mp := List.Mem.tail (Dw, LCg.lst vw) mp
  have mD := List.Mem.tail (Dw, LCg.lst vw) mD
  have m7 := List.Mem.tail (Dw, LCg.lst vw) m7
  clear mP
  generalize (Dw, LCg.lst vw) :: l4 = l5 at *
  refine law_cut 11 htk (law_s11 B X T nc5 mD hU hl6 K.ht K.hz P) fun s htk H => ?_
  unfold Halt at H
  obtain ⟨Da, ya, ta, hTa, P⟩ := H
  have hks : ((ds.drop 2).take (min (2 + step).toNat ds.length - 2)).length ≤ 6 := by rw [List.length_take, List.length_drop]; exact Nat.le_trans (Nat.min_le_right ..) (by rename List.length ds = 6 => h6; rw [h6]; decide)
  generalize (ds.drop 2).take (min (2 + step).toNat ds.length - 2) = ks at hTa hks
  have nc6 := nc_cons (a := (Da, LCg.lst ya)) noCell_seq (nc_app hTa.seq nc5)
  have ma : (Da, LCg.lst ya) ∈ (Da, LCg.lst ya) :: (ta ++ l5) := .head _
  have mta : ∀ p ∈ ta, p ∈ (Da, LCg.lst ya) :: (ta ++ l5) := fun p hp => .tail _ (List.mem_append_left _ hp)
  have mw := List.Mem.tail (Da, LCg.lst ya) (List.mem_append_right ta mw)
  have mt := List.Mem.tail (Da, LCg.lst ya) (List.mem_append_right ta mt)
  have mtl : ∀ p ∈ tl, p ∈ (Da, LCg.lst ya) :: (ta ++ l5) := fun p hp => .tail _ (List.mem_append_right _ (mtl p hp))
  have mp := List.Mem.tail (Da, LCg.lst ya) (List.mem_append_right ta mp)
  have m7 := List.Mem.tail (Da, LCg.lst ya) (List.mem_append_right ta m7)
  generalize (Da, LCg.lst ya) :: (ta ++ l5) = l6 at *
  have P := LSt.vars (vars' := [(Str.ofString "asked", .ref Da), (Str.ofString "walked", .str (St (wls.getD 0 [])) tw)]) P kv2
  refine law_cut 12 htk (law_s12 B X T nc6 K.hz hTa ma mta hks mp hvp (pl_len (by have := K.hz; omega)) pl_bnd P) fun s htk H => ?_
  unfold Halt at H
  obtain ⟨Dg, vg, hvg, P⟩ := H
  have nc7 := nc_cons (a := (Dg, LCg.lst vg)) noCell_seq nc6
  have hgb : ∀ x ∈ ks.map (gapOf (plOf start leap size) size), 0 ≤ x ∧ x ≤ 16 := fun x hx => by
    obtain ⟨k, _, rfl⟩ := List.mem_map.mp hx
    exact gap_bnd
  refine law_cut 13 htk (law_s13 B X T nc7 hl K.ht (.head _) hvg (by rw [List.length_map]; exact hks) hgb P) fun s htk H => ?_
  unfold Halt at H
  obtain ⟨Dc, vc, hvc, P⟩ := H
  have nc8 := nc_cons (a := (Dc, LCg.lst vc)) noCell_seq nc7
  have P := LSt.vars (vars' := [(Str.ofString "costs", .ref Dc), (Str.ofString "asked", .ref Da), (Str.ofString "walked", .str (St (wls.getD 0 [])) tw)]) P kv3
  have up : ∀ p ∈ l6, p ∈ (Dc, LCg.lst vc) :: (Dg, LCg.lst vg) :: l6 := fun p hp => .tail _ (.tail _ hp)
  have hplv : ∀ k : Int, 0 ≤ k → k ≤ size → (plOf start leap size).getD k.toNat 0 = placeAt start leap k := fun k h0 h1 => pl_at h0 h1
  obtain ⟨wl0, wlr, hwls⟩ : ∃ a b, wls = a :: b := by
    cases wls with
    | nil => have h1 := K.hwl; have h2 := K.hz; rw [List.length_nil] at h1; omega
    | cons a b => exact ⟨a, b, rfl⟩
  subst hwls
  obtain ⟨ty0, vr, hvE⟩ := strs_head hvw
  subst hvE
  refine law_cut 14 htk (law_s14 B X T nc8 hs hl K.hz htk hTt (up _ mt) (fun p hp => up _ (mtl p hp)) (up _ mw) (up _ mp) hvp (pl_len (by have := K.hz; omega)) hplv P) fun s htk P => ?_
  unfold Halt at P
  have P := LSt.vars (vars' := [(Str.ofString "costs", .ref Dc), (Str.ofString "asked", .ref Da)]) P kv4
  obtain ⟨ta', hTa', hsub', hseq'⟩ := hTa.thin (fun k o h => by obtain ⟨t1, t2, rfl⟩ := h; exact ⟨_, _, rfl⟩)
  have hsub : ∀ p ∈ (Dc, LCg.lst vc) :: (Da, LCg.lst ya) :: (Dw, LCg.lst (.str (St wl0) ty0 :: vr)) :: (Dp, LCg.lst vp) :: ta', p ∈ (Dc, LCg.lst vc) :: (Dg, LCg.lst vg) :: l6 := fun p hp => by
    rcases List.mem_cons.mp hp with rfl | hp
    · exact .head _
    rcases List.mem_cons.mp hp with rfl | hp
    · exact up _ ma
    rcases List.mem_cons.mp hp with rfl | hp
    · exact up _ mw
    rcases List.mem_cons.mp hp with rfl | hp
    · exact up _ mp
    exact up _ (mta p (hsub' p hp))
  have hsq : ∀ p ∈ (Dc, LCg.lst vc) :: (Da, LCg.lst ya) :: (Dw, LCg.lst (.str (St wl0) ty0 :: vr)) :: (Dp, LCg.lst vp) :: ta', ∃ xs n, p.2.data = .seq xs n := fun p hp => by
    rcases List.mem_cons.mp hp with rfl | hp
    · exact ⟨_, _, rfl⟩
    rcases List.mem_cons.mp hp with rfl | hp
    · exact ⟨_, _, rfl⟩
    rcases List.mem_cons.mp hp with rfl | hp
    · exact ⟨_, _, rfl⟩
    rcases List.mem_cons.mp hp with rfl | hp
    · exact ⟨_, _, rfl⟩
    exact hseq' p hp
  have hn7 := fun p hp => P.ne77 (up _ m7) (hsub p hp) (hsq p hp)
  have hnc := fun p hp => nc8 p (hsub p hp)
  have P := LSt.sub (led' := (77, tabObj #[]) :: (Dc, LCg.lst vc) :: (Da, LCg.lst ya) :: (Dw, LCg.lst (.str (St wl0) ty0 :: vr)) :: (Dp, LCg.lst vp) :: ta') P (fun p hp => by
    rcases List.mem_cons.mp hp with rfl | hp
    · exact up _ m7
    · exact hsub p hp)
  have hxl : (((wl0 :: wlr).map St).length : Int) = size := by rw [List.length_map]; exact K.hwl
  refine law_cut 15 htk (law_s15 B X T hnc hn7 hC (.inl rfl) K.hz (.tail _ (.tail _ (.head _))) hvw hxl (.tail _ (.tail _ (.tail _ (.head _)))) hvp (pl_len (by have := K.hz; omega)) K.hgt K.hle hTa' (.tail _ (.head _)) (fun p hp => .tail _ (.tail _ (.tail _ (.tail _ hp)))) P) fun s htk H => ?_
  unfold Halt at H
  obtain ⟨ps, led', P, _, hs', hnc', _⟩ := H
  have nc9 := nc_cons (a := ((77 : Addr), tabObj ps)) noCell_tab hnc'
  have e16 : lawDef.1.drop (15 + 1) = stm 16 := rfl
  rw [e16]
  refine wpAny_mono (law_s16 B X T nc9 K.hz hTa' (.tail _ (hs' _ (.tail _ (.head _)))) (fun p hp => .tail _ (hs' _ (.tail _ (.tail _ (.tail _ (.tail _ hp)))))) hks (.tail _ (hs' _ (.head _))) hvc (by rw [List.length_map, List.length_map]) (.tail _ (hs' _ (.tail _ (.tail _ (.head _))))) hvw K.hwl K.hwz K.hsim (fun i k hk => ?_) P) (fun f s' H => ?_) fun _ _ h => h
  · rw [List.getElem?_map, List.getElem?_map, hk]
    exact congrArg some (K.hham k)
  · unfold Halt at H
    obtain ⟨rfl, h', tk', rfl, hF, N⟩ := H
    exact hQ9 _ _ ⟨rfl, h', tk', rfl, hF, GrownAt.of N (.head _), trivial⟩
end
end
section
theorem law_holds : PySem.Challenge.rw_pe0126_01.Holds := hd (by
  k_fill
  intro w s₀ s₁ mg mb G Y fa o pm cd doc dV kV ho hd hcd hD hmg hg args vals as hpre hlay hrd hwl hlo
  have KX := km_in_of Y
  km_tabs Y
  have X := (Ground.X G).1
  have V := (Ground.X G).2
  refine Ground.open G ?_
  intro T B D TE TW
  try (refine guard_noD D (by decide +kernel) ?_; clear D)
  km_lay T hmg ho hd cd
  clear hmg
  wrow_args hpre hlay hrd hwl hlo
  all_goals (
    first | refine callC_kw (enter_call ?_) | refine enter_call ?_
    w_top on
    kn_posts
    skip)
  (have he := Dflts.none hD rfl; subst he; have he := Dflts.noKw hD; subst he)
  refine call_cellsN (by decide) ho (fd_plain hd) (Top.nolimit T) hcd rfl (kinds_of (by kinds_ok)) (by decide) fun h₁ tk₁ cells F N0 X0 => ?_
  obtain ⟨o1, o2, o3, o4, o5, o6, o7, o8, o9, o10, he, d1, d2, d3, d4, d5, d6, d7, d8, d9, d10⟩ := kc_ten X0
  subst he
  clear hd X0 hcd ho hD
  kn_ghosts F T
  k_drop
  dsimp only
  (rename Fr _ _ _ _ => F9)
  (rename News _ _ _ _ => N9)
  rename ¬ _ < _ => hc9
  refine' wpAny_mono (law_main (w := w) (s₀ := s₁) ?hB ?hX ?hT ?hC ?hscr ?hI ?hn ?hP) (fun f s' H => ?hpost) (fun _ _ h => h)
  case hB => assumption
  case hX => assumption
  case hT => assumption
  case hC => assumption
  case hscr => assumption
  case hI => assumption
  case hn => exact Nat.le_of_not_lt fun h => hc9 (Int.ofNat_lt.mpr h)
  case hP => exact ⟨_, o10, o9, o8, o7, o6, o5, o4, o3, o2, o1, _, _, rfl, fr_kst F9 (bind_one (by rfl)), News.sub N9 cells_rev, ⟨_, d10⟩, ⟨_, d9⟩, ⟨_, d8⟩, ⟨_, d7⟩, ⟨_, d6⟩, ⟨_, d5⟩, ⟨_, d4⟩, ⟨_, d3⟩, ⟨_, d2⟩, ⟨_, d1⟩⟩
  case hpost =>
    obtain ⟨rfl, h', tk', rfl, ⟨m9, F8⟩, hG⟩ := H
    refine ⟨?_, hG⟩
    show GoodW _ _ _ _ _ (.ok (.ret (.bool _))) _
    refine goodW_bool F8 (by assumption) (raisesW_false ?_) ?_
    · wrow_none_raised
    · wrow_post)
end
end Mine
theorem PySem.Challenge.cw_pe0126_01_holds : PySem.Challenge.rw_pe0126_01.Holds := by
  exact Mine.law_holds
