import PyProof.Rows.All
import Wide.All
import OpenK.AllK
import Wide.FinOn
import PySem.Challenge.RW_pe0137_01
set_option Elab.async false
section PartHd
open PySem PySem.W PyProof.Rows
namespace Mine
set_option maxRecDepth 100000 in
set_option maxHeartbeats 8000000 in
open_top hd for PySem.Challenge.rw_pe0137_01
end Mine
end PartHd
section PartMA
open PySem PySem.W PyProof.Rows PySem.Flt
namespace Mine
noncomputable abbrev LO : List Str := looseW hd.view_39 [Str.ofString "insort_right", Str.ofString "bisect_right", Str.ofString "insort_left", Str.ofString "bisect_left"]

/-- all of the heap stands as it stood (new things may have come) -/
def Kept (h h' : Heap) : Prop := ∀ b o, h.get? b = some o → h'.get? b = some o
theorem Kept.trans {a b c : Heap} (x : Kept a b) (y : Kept b c) : Kept a c := fun _ _ e => y _ _ (x _ _ e)
theorem Kept.refl (a : Heap) : Kept a a := fun _ _ e => e

section
variable {prog : Program} {w : World} {A : Around} {s : Shared} {K : Frag} {p : Program} {loose : List Str} {mean : ExcName → Option Value} {mg mb : Str → Option Value}
theorem enterP {R : Result → Shared → Prop} {name qual : Str} {params : Arguments} {body : List Stmt} {scope : Scope} {dV kV doc pm cdv ct oc : Value} {an od : Option Addr} {osl : Array (Option Value)} {f : Addr} {args : Args} {binds : List (Str × Value)}
    (X : K.In s.heap) (T : Top p loose mean mg mb s.heap)
    (ho : K.lookup f = some ⟨oc, od, .func (fnOf name qual params body scope dV kV doc pm an cdv ct), osl⟩) (hcd : codeIn K cdv qual = true) (hroom : A.depth < recursionLimit)
    (hbind : BindsTo s (fnOf name qual params body scope dV kV doc pm an cdv ct) args binds) (hloc : ∀ y ∈ binds, scope.names.lookup y.1 = some .local)
    (h : ∀ L' h₁, Fr s.heap L' h₁ (fun y => binds.reverse.lookup y) → News s.heap L' h₁ [] →
      wpAny (model prog w) (A.deeper (envOf qual scope L' f cdv)) (execs body (envOf qual scope L' f cdv))
        (fun fl s' => R (.ok (.ret (match fl with | .ret v => v | _ => .none))) s') (fun _ _ => False)
        { s with heap := h₁, toks := s.toks + binds.length })
    (hcell : ∀ x ∈ scope.names, x.2 ≠ .cell) (hco : scope.isCoroutine = false) (hgen : scope.isGenerator = false) (hk : scope.kind = .function) : codeAny (model prog w) A (.call (.ref f) args) R s := by
  refine codeAny_call_def (fd := fnOf name qual params body scope dV kV doc pm an cdv ct) (body := body) (binds := binds) hroom (X _ _ ho) rfl T.nolimit (codeRec_of X hcd) rfl hbind hcell hloc (fun h₁ hns hk₁ => ?_) hco hgen hk
  refine wpAny_mono (h s.heap.objs.size h₁ ⟨hns, hk₁, Nat.le_refl _⟩ News.nil) (fun _ _ x => x) (fun _ _ x => x.elim)
end

section
variable {prog : Program} {w : World} {A : Around} {E : Value → Shared → Prop} {s : Shared} {Q : Value → Shared → Prop}
def max3V (a b c : Value) : Value := if ltV a b then (if ltV b c then c else b) else (if ltV a c then c else a)
def min3V (a b c : Value) : Value := if ltV b a then (if ltV c b then c else b) else (if ltV c a then c else a)
theorem max3_num {a b c : Value} (hh : A.handled = none) (ha : NumV a) (hb : NumV b) (hc : NumV c)
    (h : ∀ h' tk, Kept s.heap h' → Q (max3V a b c) { s with heap := h', toks := tk }) :
    wpAny (model prog w) A (call (.builtin "max") [a, b, c]) Q E s := by
  have hT : (s.heap.push { cls := .type "tuple", data := .seq #[a, b, c] }).IsTuple s.heap.objs.size #[a, b, c] := ⟨_, Heap.get?_push_size _ rfl, rfl, 0, rfl⟩
  refine call_max_three (wpAny_pyIter_tuple hT ?_)
  have hsz : (s.heap.push { cls := .type "tuple", data := .seq #[a, b, c] }).objs.size = s.heap.objs.size + 1 := Heap.size_push ..
  refine ⟨_, [_, s.heap.objs.size], [_], _, _, _, _, rfl, Walks.tuple (A := A.in1) hh _ s.heap.objs.size (by rw [hsz]; exact Nat.ne_of_lt (Nat.lt_succ_self _)) #[a, b, c],
    ⟨⟨_, Heap.get?_push_size _ rfl, rfl, rfl⟩, hT.push _⟩, fun d hd => ?_, by simp, cmpOf_gt #[a, b, c] (by simp [ha, hb, hc]), fun v h' tk hP hk => ?_⟩
  · show d < ((s.heap.push _).push _).objs.size
    rw [Heap.size_push, hsz]
    rcases List.mem_cons.mp hd with rfl | hd
    · rw [hsz]; exact Nat.lt_succ_self _
    · rcases List.mem_cons.mp hd with rfl | hd
      · exact Nat.lt_succ_of_lt (Nat.lt_succ_self _)
      · cases hd
  · have hold : Kept s.heap h' := fun d o e => by
      refine hk d o (fun hm => ?_) (Heap.get?_push_of_some _ (Heap.get?_push_of_some _ e))
      rcases List.mem_cons.mp hm with e1 | hm
      · have := Heap.lt_size e; rw [e1, hsz] at this; exact Nat.lt_irrefl _ (Nat.lt_of_succ_lt this)
      · cases hm
    have := h h' tk hold
    have hv : v = max3V a b c := by
      unfold max3V
      cases h1 : ltV a b <;> cases h2 : ltV b c <;> cases h3 : ltV a c <;> simp [argBest, h1, h2, h3] at hP <;> simp [hP]
    rw [hv]; exact this
theorem min3_num {a b c : Value} (hh : A.handled = none) (ha : NumV a) (hb : NumV b) (hc : NumV c)
    (h : ∀ h' tk, Kept s.heap h' → Q (min3V a b c) { s with heap := h', toks := tk }) :
    wpAny (model prog w) A (call (.builtin "min") [a, b, c]) Q E s := by
  have hT : (s.heap.push { cls := .type "tuple", data := .seq #[a, b, c] }).IsTuple s.heap.objs.size #[a, b, c] := ⟨_, Heap.get?_push_size _ rfl, rfl, 0, rfl⟩
  refine call_min_three (wpAny_pyIter_tuple hT ?_)
  have hsz : (s.heap.push { cls := .type "tuple", data := .seq #[a, b, c] }).objs.size = s.heap.objs.size + 1 := Heap.size_push ..
  refine ⟨_, [_, s.heap.objs.size], [_], _, _, _, _, rfl, Walks.tuple (A := A.in1) hh _ s.heap.objs.size (by rw [hsz]; exact Nat.ne_of_lt (Nat.lt_succ_self _)) #[a, b, c],
    ⟨⟨_, Heap.get?_push_size _ rfl, rfl, rfl⟩, hT.push _⟩, fun d hd => ?_, by simp, cmpOf_lt #[a, b, c] (by simp [ha, hb, hc]), fun v h' tk hP hk => ?_⟩
  · show d < ((s.heap.push _).push _).objs.size
    rw [Heap.size_push, hsz]
    rcases List.mem_cons.mp hd with rfl | hd
    · rw [hsz]; exact Nat.lt_succ_self _
    · rcases List.mem_cons.mp hd with rfl | hd
      · exact Nat.lt_succ_of_lt (Nat.lt_succ_self _)
      · cases hd
  · have hold : Kept s.heap h' := fun d o e => by
      refine hk d o (fun hm => ?_) (Heap.get?_push_of_some _ (Heap.get?_push_of_some _ e))
      rcases List.mem_cons.mp hm with e1 | hm
      · have := Heap.lt_size e; rw [e1, hsz] at this; exact Nat.lt_irrefl _ (Nat.lt_of_succ_lt this)
      · cases hm
    have := h h' tk hold
    have hv : v = min3V a b c := by
      unfold min3V
      cases h1 : ltV b a <;> cases h2 : ltV c b <;> cases h3 : ltV c a <;> simp [argBest, h1, h2, h3] at hP <;> simp [hP]
    rw [hv]; exact this
/-- the greatest of three doubles, as max tells it -/
def max3 (a b c : UInt64) : UInt64 := if Float64.cmp a b == some .lt then (if Float64.cmp b c == some .lt then c else b) else (if Float64.cmp a c == some .lt then c else a)
def min3 (a b c : UInt64) : UInt64 := if Float64.cmp b a == some .lt then (if Float64.cmp c b == some .lt then c else b) else (if Float64.cmp c a == some .lt then c else a)
variable {h₀ : Heap} {L : Addr} {m : Str → Option Value} {news : List (Addr × Obj)}
theorem max3_f {a b c : UInt64} {t u x : Tok} (hh : A.handled = none) (F : Fr h₀ L s.heap m) (N : News h₀ L s.heap news)
    (h : ∀ h' tk v, Fr h₀ L h' m → News h₀ L h' news → Q (.float (max3 a b c) v) { s with heap := h', toks := tk }) :
    wpAny (model prog w) A (call (.builtin "max") [.float a t, .float b u, .float c x]) Q E s :=
  max3_num hh (.float a t) (.float b u) (.float c x) fun h' tk kp => by
    have := fun v => h h' tk v (F.grownK kp) (N.grown kp)
    revert this
    unfold max3V max3
    simp only [ltV]
    by_cases c1 : (Float64.cmp a b == some Ordering.lt) = true
    · by_cases c2 : (Float64.cmp b c == some Ordering.lt) = true
      · simp only [c1, c2, if_true]; exact fun this => this x
      · simp only [c1, c2, if_true]; exact fun this => this u
    · by_cases c2 : (Float64.cmp a c == some Ordering.lt) = true
      · simp only [c1, c2, if_true]; exact fun this => this x
      · simp only [c1, c2]; exact fun this => this t
theorem min3_f {a b c : UInt64} {t u x : Tok} (hh : A.handled = none) (F : Fr h₀ L s.heap m) (N : News h₀ L s.heap news)
    (h : ∀ h' tk v, Fr h₀ L h' m → News h₀ L h' news → Q (.float (min3 a b c) v) { s with heap := h', toks := tk }) :
    wpAny (model prog w) A (call (.builtin "min") [.float a t, .float b u, .float c x]) Q E s :=
  min3_num hh (.float a t) (.float b u) (.float c x) fun h' tk kp => by
    have := fun v => h h' tk v (F.grownK kp) (N.grown kp)
    revert this
    unfold min3V min3
    simp only [ltV]
    by_cases c1 : (Float64.cmp b a == some Ordering.lt) = true
    · by_cases c2 : (Float64.cmp c b == some Ordering.lt) = true
      · simp only [c1, c2, if_true]; exact fun this => this x
      · simp only [c1, c2, if_true]; exact fun this => this u
    · by_cases c2 : (Float64.cmp c a == some Ordering.lt) = true
      · simp only [c1, c2, if_true]; exact fun this => this x
      · simp only [c1, c2]; exact fun this => this t
end
end Mine
end PartMA
section PartMB
open PySem PySem.W PyProof.Rows PySem.Flt
namespace Mine
def eqF (x y : UInt64) : Bool := Float64.cmp x y == some .eq
def hueOf (r g b maxc rangec : UInt64) : UInt64 :=
  (Float64.divmod (Float64.div (if eqF r maxc = true then Float64.sub (Float64.div (Float64.sub maxc b) rangec) (Float64.div (Float64.sub maxc g) rangec)
    else if eqF g maxc = true then Float64.sub (Float64.add 4611686018427387904 (Float64.div (Float64.sub maxc r) rangec)) (Float64.div (Float64.sub maxc b) rangec)
    else Float64.sub (Float64.add 4616189618054758400 (Float64.div (Float64.sub maxc g) rangec)) (Float64.div (Float64.sub maxc r) rangec)) 4618441417868443648) 4607182418800017408).2
def hueF (r g b : UInt64) : UInt64 := if eqF (min3 r g b) (max3 r g b) = true then 0 else hueOf r g b (max3 r g b) (Float64.sub (max3 r g b) (min3 r g b))
theorem hueF_e {r g b : UInt64} (h : (Float64.cmp (min3 r g b) (max3 r g b) == some Ordering.eq) = true) : hueF r g b = 0 := by unfold hueF eqF; rw [if_pos h]
theorem hueF_r {r g b : UInt64} (h : (Float64.cmp (min3 r g b) (max3 r g b) == some Ordering.eq) = false) (h1 : (Float64.cmp r (max3 r g b) == some Ordering.eq) = true) :
    hueF r g b = (Float64.divmod (Float64.div (Float64.sub (Float64.div (Float64.sub (max3 r g b) b) (Float64.sub (max3 r g b) (min3 r g b))) (Float64.div (Float64.sub (max3 r g b) g) (Float64.sub (max3 r g b) (min3 r g b)))) 4618441417868443648) 4607182418800017408).2 := by
  unfold hueF eqF hueOf eqF; rw [if_neg (by simp [h]), if_pos h1]
theorem hueF_g {r g b : UInt64} (h : (Float64.cmp (min3 r g b) (max3 r g b) == some Ordering.eq) = false) (h1 : (Float64.cmp r (max3 r g b) == some Ordering.eq) = false) (h2 : (Float64.cmp g (max3 r g b) == some Ordering.eq) = true) :
    hueF r g b = (Float64.divmod (Float64.div (Float64.sub (Float64.add 4611686018427387904 (Float64.div (Float64.sub (max3 r g b) r) (Float64.sub (max3 r g b) (min3 r g b)))) (Float64.div (Float64.sub (max3 r g b) b) (Float64.sub (max3 r g b) (min3 r g b)))) 4618441417868443648) 4607182418800017408).2 := by
  unfold hueF eqF hueOf eqF; rw [if_neg (by simp [h]), if_neg (by simp [h1]), if_pos h2]
theorem hueF_b {r g b : UInt64} (h : (Float64.cmp (min3 r g b) (max3 r g b) == some Ordering.eq) = false) (h1 : (Float64.cmp r (max3 r g b) == some Ordering.eq) = false) (h2 : (Float64.cmp g (max3 r g b) == some Ordering.eq) = false) :
    hueF r g b = (Float64.divmod (Float64.div (Float64.sub (Float64.add 4616189618054758400 (Float64.div (Float64.sub (max3 r g b) g) (Float64.sub (max3 r g b) (min3 r g b)))) (Float64.div (Float64.sub (max3 r g b) r) (Float64.sub (max3 r g b) (min3 r g b)))) 4618441417868443648) 4607182418800017408).2 := by
  unfold hueF eqF hueOf eqF; rw [if_neg (by simp [h]), if_neg (by simp [h1]), if_neg (by simp [h2])]
theorem zz1 {x y : Bool} (h : x = false ∧ y = false) (e : x = true) : False := by rw [h.1] at e; cases e
theorem zz2 {x y : Bool} (h : x = false ∧ y = false) (e : y = true) : False := by rw [h.2] at e; cases e
theorem tup_ret {s : Shared} {Q : Value → Shared → Prop} {H X : UInt64} (hret : ∀ a t x y h' tk', Kept s.heap h' → IsTup h' a #[.float H t, x, y] → Q (.ref a) { s with heap := h', toks := tk' })
    {L : Addr} {h' : Heap} {m : Str → Option Value} {news : List (Addr × Obj)} {a : Addr} {t : Tok} {x y : Value} {tk : Nat} (F : Fr s.heap L h' m) (N : News s.heap L h' ((a, { cls := Value.type "tuple", data := Data.seq #[Value.float X t, x, y] }) :: news)) (e : H = X) :
    Q (.ref a) { s with heap := h', toks := tk } := by subst e; exact hret a t x y h' tk F.keep ⟨_, (N _ (.head _)).1, rfl, _, rfl⟩
local macro_rules | `(tactic| k_room) => `(tactic| ktr_room)
local macro_rules | `(tactic| k_units) => `(tactic| ktr_units)
local macro_rules | `(tactic| walk_at "call builtin:max") => `(tactic| ((with_reducible show wpAny _ _ (call _ [Value.float _ _, Value.float _ _, Value.float _ _]) _ _ _); (rename News _ _ _ _ => N'); (rename Fr _ _ _ _ => F'); refine max3_f rfl F' N' ?_; clear N' F'; intro h' tk' v' F' N'; try dsimp only))
local macro_rules | `(tactic| walk_at "call builtin:min") => `(tactic| ((with_reducible show wpAny _ _ (call _ [Value.float _ _, Value.float _ _, Value.float _ _]) _ _ _); (rename News _ _ _ _ => N'); (rename Fr _ _ _ _ => F'); refine min3_f rfl F' N' ?_; clear N' F'; intro h' tk' v' F' N'; try dsimp only))

set_option maxRecDepth 100000 in
set_option maxHeartbeats 8000000 in
theorem hsv_ctr : ∀ (w : World) (mean : ExcName → Option Value) (mg mb : Str → Option Value) (A : Around) (s : Shared) (Q E : Value → Shared → Prop)
   (r g b : UInt64) (t1 t2 t3 : Tok)
   (_ : (hd.heap_39 w.params).In s.heap) (_ : Top hd.view_39 LO mean mg mb s.heap) (_ : A.handled = none) (_ : A.depth + 8 < recursionLimit) (_ : A.units + 80 < cLine)
   (_ : (Float64.cmp (min3 r g b) (max3 r g b) == some Ordering.eq) = false → Float64.isZero (max3 r g b) = false ∧ Float64.isZero (Float64.sub (max3 r g b) (min3 r g b)) = false)
   (_ : ∀ a t x y h' tk', Kept s.heap h' → IsTup h' a #[.float (hueF r g b) t, x, y] → Q (.ref a) { s with heap := h', toks := tk' }),
   wpAny (model PySem.Challenge.rw_pe0137_01.row.prog w) A (call (.ref 64) [.float r t1, .float g t2, .float b t3]) Q E s := by
  w_top off
  k_fill
  intro w mean mg mb A s Q E r g b t1 t2 t3 X T hA hdp hun hz hret
  obtain ⟨ah, dp, fr, gd, un⟩ := A
  dsimp only at hA hdp hun
  subst hA
  refine wpAny_call ?_
  k_dflt (refine' enterP (binds := [(Str.ofString "r", .float r t1), (Str.ofString "g", .float g t2), (Str.ofString "b", .float b t3)]) ?k1 ?k2 ?k6 ?k7 ?k8 ?k9 ?kB ?_ ?c5 ?c2 ?c3 ?c4; (case k1 => k_asm); (case k2 => k_asm); (case k6 => k_is); (case k7 => k_is); (case k8 => ktr_room); (case k9 => exact BindsTo.of_eq rfl); (case kB => exact locs rfl); (case c5 => decide); (case c2 => exact rfl); (case c3 => exact rfl); (case c4 => exact rfl); k_whole; intro L' h' F' N'; (try dsimp only); (try k_fold))
  k_steps
  all_goals (first
    | exact zz1 (hz (by assumption)) (by assumption)
    | exact zz2 (hz (by assumption)) (by assumption)
    | ((try k_unfold); (try dsimp only); (first
      | exact tup_ret hret (by assumption) (by assumption) (hueF_e (by assumption))
      | exact tup_ret hret (by assumption) (by assumption) (hueF_r (by assumption) (by assumption))
      | exact tup_ret hret (by assumption) (by assumption) (hueF_g (by assumption) (by assumption) (by assumption))
      | exact tup_ret hret (by assumption) (by assumption) (hueF_b (by assumption) (by assumption) (by assumption)))))
theorem zz3 {x y z : Bool} (h : x = false ∧ y = false ∧ z = false) (e : x = true) : False := by rw [h.1] at e; cases e
theorem zz4 {x y z : Bool} (h : x = false ∧ y = false ∧ z = false) (e : y = true) : False := by rw [h.2.1] at e; cases e
theorem zz5 {x y z : Bool} (h : x = false ∧ y = false ∧ z = false) (e : z = true) : False := by rw [h.2.2] at e; cases e
set_option maxRecDepth 100000 in
set_option maxHeartbeats 8000000 in
theorem hls_ctr : ∀ (w : World) (mean : ExcName → Option Value) (mg mb : Str → Option Value) (A : Around) (s : Shared) (Q E : Value → Shared → Prop)
   (r g b : UInt64) (t1 t2 t3 : Tok)
   (_ : (hd.heap_39 w.params).In s.heap) (_ : Top hd.view_39 LO mean mg mb s.heap) (_ : A.handled = none) (_ : A.depth + 8 < recursionLimit) (_ : A.units + 80 < cLine)
   (_ : (Float64.cmp (min3 r g b) (max3 r g b) == some Ordering.eq) = false → Float64.isZero (Float64.sub (max3 r g b) (min3 r g b)) = false ∧ Float64.isZero (Float64.add (max3 r g b) (min3 r g b)) = false ∧ Float64.isZero (Float64.sub (Float64.sub 4611686018427387904 (max3 r g b)) (min3 r g b)) = false)
   (_ : ∀ a t x y h' tk', Kept s.heap h' → IsTup h' a #[.float (hueF r g b) t, x, y] → Q (.ref a) { s with heap := h', toks := tk' }),
   wpAny (model PySem.Challenge.rw_pe0137_01.row.prog w) A (call (.ref 57) [.float r t1, .float g t2, .float b t3]) Q E s := by
  w_top off
  k_fill
  intro w mean mg mb A s Q E r g b t1 t2 t3 X T hA hdp hun hz hret
  obtain ⟨ah, dp, fr, gd, un⟩ := A
  dsimp only at hA hdp hun
  subst hA
  refine wpAny_call ?_
  k_dflt (refine' enterP (binds := [(Str.ofString "r", .float r t1), (Str.ofString "g", .float g t2), (Str.ofString "b", .float b t3)]) ?k1 ?k2 ?k6 ?k7 ?k8 ?k9 ?kB ?_ ?c5 ?c2 ?c3 ?c4; (case k1 => k_asm); (case k2 => k_asm); (case k6 => k_is); (case k7 => k_is); (case k8 => ktr_room); (case k9 => exact BindsTo.of_eq rfl); (case kB => exact locs rfl); (case c5 => decide); (case c2 => exact rfl); (case c3 => exact rfl); (case c4 => exact rfl); k_whole; intro L' h' F' N'; (try dsimp only); (try k_fold))
  k_steps
  all_goals (first
    | exact zz3 (hz (by assumption)) (by assumption)
    | exact zz4 (hz (by assumption)) (by assumption)
    | exact zz5 (hz (by assumption)) (by assumption)
    | ((try k_unfold); (try dsimp only); (first
      | exact tup_ret hret (by assumption) (by assumption) (hueF_e (by assumption))
      | exact tup_ret hret (by assumption) (by assumption) (hueF_r (by assumption) (by assumption))
      | exact tup_ret hret (by assumption) (by assumption) (hueF_g (by assumption) (by assumption) (by assumption))
      | exact tup_ret hret (by assumption) (by assumption) (hueF_b (by assumption) (by assumption) (by assumption)))))
end Mine
end PartMB
section PartMC
open PySem PySem.W PyProof.Rows PySem.Flt
namespace Mine
theorem kept_use {h₀ h h' : Heap} {L : Addr} {m : Str → Option Value} {news : List (Addr × Obj)} (F : Fr h₀ L h m) (N : News h₀ L h news) (k : Kept h h') : Fr h₀ L h' m ∧ News h₀ L h' news := ⟨F.grownK k, N.grown k⟩
theorem lift_list {h₀ h : Heap} {L l : Addr} {m : Str → Option Value} {items : Array Value} (F : Fr h₀ L h m) (x : h₀.IsList l items) : h.IsList l items := let ⟨o, ho, r⟩ := x; ⟨o, F.keep _ _ ho, r⟩
theorem lift_top {p : Program} {loose : List Str} {mean : ExcName → Option Value} {mg mb : Str → Option Value} {h₀ h : Heap} {L : Addr} {m : Str → Option Value} (T : Top p loose mean mg mb h₀) (F : Fr h₀ L h m) : Top p loose mean mg mb h := T.keeps F.keep
def q4096 (n : Int) : UInt64 := Float64.div (Float64.ofInt n) 4661225614328463360
def hueC (r g b : Int) : UInt64 := hueF (q4096 r) (q4096 g) (q4096 b)
def HueOk (x y z : UInt64) : Prop := (Float64.cmp (min3 x y z) (max3 x y z) == some Ordering.eq) = false → Float64.isZero (max3 x y z) = false ∧ Float64.isZero (Float64.sub (max3 x y z) (min3 x y z)) = false
theorem div_4096 {prog : Program} {w : World} {A : Around} {E : Value → Shared → Prop} {s : Shared} {Q : Value → Shared → Prop} {n : Int} {t u : Tok} (hA : A.handled = none) (h0 : 0 ≤ n) (h1 : n ≤ 4096)
    (h : Q (.float (q4096 n) s.toks) { s with toks := s.toks + 1 }) : wpAny (model prog w) A (binaryOp .Div (.int n u) (.float 4661225614328463360 t)) Q E s :=
  truediv_if hA (fun ho => by exfalso; unfold Over at ho; omega) (fun _ hz => by exfalso; revert hz; decide +kernel) fun _ _ => h
local macro_rules | `(tactic| k_room) => `(tactic| ktr_room)
local macro_rules | `(tactic| k_units) => `(tactic| ktr_units)
local macro_rules | `(tactic| kun_lst) => `(tactic| exact lift_list (by k_asm) (by k_asm))
local macro_rules | `(tactic| walk_at "binaryOp Div int float") => `(tactic| (k_dflt (refine' div_4096 ?a ?b ?c ?_; (case a => exact rfl); (case b => omega); (case c => omega)); (try dsimp only)))
local macro_rules | `(tactic| walk_at "call ref") => `(tactic| ((with_reducible show wpAny _ _ (call (Value.ref 64) _) _ _ _); k_dflt (refine' hsv_ctr _ _ _ _ _ _ _ _ _ _ _ _ _ _ ?X ?T ?h1 ?h2 ?h3 ?hz ?_; (case X => k_in); (case T => exact lift_top (by k_asm) (by k_asm)); (case h1 => exact rfl); (case h2 => ktr_room); (case h3 => ktr_units); (case hz => k_asm)); intro a' t' x' y' h' tk' k' i'; (obtain ⟨F', N'⟩ := kept_use (by k_asm) (by k_asm) k'); (try k_sweep); (try dsimp only)))

set_option maxRecDepth 100000 in
set_option maxHeartbeats 8000000 in
theorem hue_ctr : ∀ (w : World) (mean : ExcName → Option Value) (mg mb : Str → Option Value) (A : Around) (s : Shared) (Q E : Value → Shared → Prop)
   (l : Addr) (r g b : Int) (t1 t2 t3 : Tok)
   (_ : (hd.heap_39 w.params).In s.heap) (_ : Top hd.view_39 LO mean mg mb s.heap) (_ : A.handled = none) (_ : A.depth + 12 < recursionLimit) (_ : A.units + 120 < cLine)
   (_ : s.heap.IsList l #[.int r t1, .int g t2, .int b t3]) (_ : 0 ≤ r ∧ r ≤ 4096) (_ : 0 ≤ g ∧ g ≤ 4096) (_ : 0 ≤ b ∧ b ≤ 4096)
   (_ : HueOk (q4096 r) (q4096 g) (q4096 b))
   (_ : ∀ t h' tk', Kept s.heap h' → Q (.float (hueC r g b) t) { s with heap := h', toks := tk' }),
   wpAny (model PySem.Challenge.rw_pe0137_01.row.prog w) A (call (.ref 71) [.ref l]) Q E s := by
  w_top off
  k_fill
  intro w mean mg mb A s Q E l r g b t1 t2 t3 X T hA hdp hun hl hr hg hb hz hret
  obtain ⟨ah, dp, fr, gd, un⟩ := A
  dsimp only at hA hdp hun
  subst hA
  refine wpAny_call ?_
  k_dflt (refine' enterP (binds := [(Str.ofString "colour", .ref l)]) ?k1 ?k2 ?k6 ?k7 ?k8 ?k9 ?kB ?_ ?c5 ?c2 ?c3 ?c4; (case k1 => k_asm); (case k2 => k_asm); (case k6 => k_is); (case k7 => k_is); (case k8 => ktr_room); (case k9 => exact BindsTo.of_eq rfl); (case kB => exact locs rfl); (case c5 => decide); (case c2 => exact rfl); (case c3 => exact rfl); (case c4 => exact rfl); k_whole; intro L' h' F' N'; (try dsimp only); (try k_fold))
  k_steps
  all_goals exact hret _ _ _ (Fr.keep (by assumption))
end Mine
end PartMC
section PartMD
open PySem PySem.W PyProof.Rows PySem.Flt
namespace Mine
abbrev Col := Int × Int × Int
def ColAt (h : Heap) (v : Value) (c : Col) : Prop := ∃ l t1 t2 t3, v = .ref l ∧ h.IsList l #[.int c.1 t1, .int c.2.1 t2, .int c.2.2 t3]
def RowAt (h : Heap) (l : Addr) (items : List Value) (cols : List Col) : Prop := h.IsList l items.toArray ∧ items.length = cols.length ∧ ∀ (i : Nat) (v : Value) (c : Col), items[i]? = some v → cols[i]? = some c → ColAt h v c
def GoodCol (c : Col) : Prop := (0 ≤ c.1 ∧ c.1 ≤ 4096) ∧ (0 ≤ c.2.1 ∧ c.2.1 ≤ 4096) ∧ (0 ≤ c.2.2 ∧ c.2.2 ≤ 4096) ∧ HueOk (q4096 c.1) (q4096 c.2.1) (q4096 c.2.2)
def hueK (c : Col) : UInt64 := hueC c.1 c.2.1 c.2.2
theorem isList_kept {h h' : Heap} {l : Addr} {items : Array Value} (k : Kept h h') (x : h.IsList l items) : h'.IsList l items := let ⟨o, ho, r⟩ := x; ⟨o, k _ _ ho, r⟩
theorem ColAt.kept {h h' : Heap} {v : Value} {c : Col} (k : Kept h h') (x : ColAt h v c) : ColAt h' v c := let ⟨l, a, b, d, e, i⟩ := x; ⟨l, a, b, d, e, isList_kept k i⟩
theorem RowAt.kept {h h' : Heap} {l : Addr} {items : List Value} {cols : List Col} (k : Kept h h') (x : RowAt h l items cols) : RowAt h' l items cols := ⟨isList_kept k x.1, x.2.1, fun i v c a b => (x.2.2 i v c a b).kept k⟩
section
variable {prog : Program} {w : World} {A : Around} {E : Value → Shared → Prop} {s : Shared} {Q : Value → Shared → Prop} {h₀ : Heap} {L : Addr} {m : Str → Option Value}
theorem row_item {value slice : PySem.Expr} {l : Addr} {items : List Value} {cols : List Col} {k : Int} {u : Tok} (F : Fr h₀ L s.heap m) (R : RowAt h₀ l items cols) (h0 : 0 ≤ k) (h1 : k < (cols.length : Int)) (hh : cols.length < 100)
    (h : ∀ c a t1 t2 t3, cols[k.toNat]? = some c → h₀.IsList a #[.int c.1 t1, .int c.2.1 t2, .int c.2.2 t3] → Q (.ref a) s)
    (hs : subscripted slice false (.ref l) (.int k u) = operate [.ref l, .int k u] (getItem (.ref l) (.int k u)) := by with_unfolding_all rfl) :
    wpAny (model prog w) A (subscriptTail value slice (.ref l) (.int k u)) Q E s := by
  obtain ⟨r1, r2, r3⟩ := R
  have hk : k.toNat < cols.length := by omega
  have hk' : k.toNat < items.length := by omega
  obtain ⟨a, t1, t2, t3, e, il⟩ := r3 k.toNat items[k.toNat] cols[k.toNat] (by simp [hk']) (by simp [hk])
  have hL := lift_list F r1
  exact tail_any hL.typeIs slot_list_getitem.lookup (wpAny_getItem_list hL h0 (by omega) (by simp [hk']; rfl) (by rw [e]; exact h _ a t1 t2 t3 (by simp [hk]) il)) hs
theorem row_len {l : Addr} {items : List Value} {cols : List Col} (F : Fr h₀ L s.heap m) (R : RowAt h₀ l items cols) (hh : cols.length < 100)
    (h : Q (.int (cols.length : Nat) (s.toks + 1)) { s with toks := s.toks + 1 + 1 }) : wpAny (model prog w) A (call (.builtin "len") [.ref l]) Q E s := by
  obtain ⟨r1, r2, r3⟩ := R
  refine Calls.call_len_list (lift_list F r1) (by simp; omega) ?_
  rw [List.size_toArray, r2]
  exact h
theorem hgood_of {cols : List Col} {c : Col} {i : Nat} (h : ∀ c ∈ cols, GoodCol c) (e : cols[i]? = some c) : GoodCol c := h c (List.mem_of_getElem? e)
def StopAt (P : Prop) : Prop := P
theorem StopAt.go {P : Prop} (h : StopAt P) : P := h
end
local macro_rules | `(tactic| k_room) => `(tactic| ktr_room)
local macro_rules | `(tactic| k_units) => `(tactic| ktr_units)
local macro_rules | `(tactic| kun_lst) => `(tactic| exact lift_list (by k_asm) (by k_asm))
local macro_rules | `(tactic| walk_at "call ref") => `(tactic| ((with_reducible show wpAny _ _ (call (Value.ref 71) _) _ _ _); k_dflt (refine' hue_ctr _ _ _ _ _ _ _ _ _ _ _ _ _ _ _ ?X ?T ?h1 ?h2 ?h3 ?hl ?g1 ?g2 ?g3 ?g4 ?_; (case X => k_in); (case T => exact lift_top (by k_asm) (by k_asm)); (case h1 => exact rfl); (case h2 => ktr_room); (case h3 => ktr_units); (case hl => exact lift_list (by k_asm) (by k_asm)); (case g1 => k_asm); (case g2 => k_asm); (case g3 => k_asm); (case g4 => k_asm)); intro t' h' tk' k'; (obtain ⟨F', N'⟩ := kept_use (by k_asm) (by k_asm) k'); (try k_sweep); (try dsimp only)))

local macro_rules | `(tactic| walk_at "call builtin:len") => `(tactic| ((with_reducible show wpAny _ _ (call (Value.builtin "len") [Value.ref _]) _ _ _); k_dflt (refine' row_len ?F ?R ?hh ?_; (case F => k_asm); (case R => k_asm); (case hh => k_asm)); (try dsimp only)))
theorem mid_lo {lo hi : Int} (h0 : 0 ≤ lo) (h : lo < hi) : 0 ≤ (lo + hi).fdiv 2 := by
  rw [Int.fdiv_eq_ediv_of_nonneg _ (by decide)]; omega
theorem mid_hi {lo hi n : Int} (h0 : hi ≤ n) (h : lo < hi) : (lo + hi).fdiv 2 < n := by
  rw [Int.fdiv_eq_ediv_of_nonneg _ (by decide)]; omega
section
variable {cols : List Col} {x : UInt64} {R : Nat} {lo hi : Int} {c : Col}
theorem bisR_yes (hcmp : ∀ (j : Nat) (c : Col), cols[j]? = some c → (Float64.cmp x (hueK c) == some Ordering.lt) = decide (R ≤ j)) (e : cols[((lo + hi).fdiv 2).toNat]? = some c) (h : (Float64.cmp x (hueC c.1 c.2.1 c.2.2) == some Ordering.lt) = true)
    (i0 : 0 ≤ lo) (i1 : lo ≤ (R : Int)) (i2 : (R : Int) ≤ hi) (i3 : hi ≤ (cols.length : Int)) (hlt : lo < hi) : (0 ≤ lo ∧ lo ≤ (R : Int) ∧ (R : Int) ≤ (lo + hi).fdiv 2 ∧ (lo + hi).fdiv 2 ≤ (cols.length : Int)) ∧ ((lo + hi).fdiv 2 - lo).toNat < (hi - lo).toNat := by
  have q := (hcmp _ c e).symm.trans h
  have q := of_decide_eq_true q
  rw [Int.fdiv_eq_ediv_of_nonneg _ (by decide)] at *
  omega
theorem bisR_no (hcmp : ∀ (j : Nat) (c : Col), cols[j]? = some c → (Float64.cmp x (hueK c) == some Ordering.lt) = decide (R ≤ j)) (e : cols[((lo + hi).fdiv 2).toNat]? = some c) (h : (Float64.cmp x (hueC c.1 c.2.1 c.2.2) == some Ordering.lt) = false)
    (i0 : 0 ≤ lo) (i1 : lo ≤ (R : Int)) (i2 : (R : Int) ≤ hi) (i3 : hi ≤ (cols.length : Int)) (hlt : lo < hi) : (0 ≤ (lo + hi).fdiv 2 + 1 ∧ (lo + hi).fdiv 2 + 1 ≤ (R : Int) ∧ (R : Int) ≤ hi ∧ hi ≤ (cols.length : Int)) ∧ (hi - ((lo + hi).fdiv 2 + 1)).toNat < (hi - lo).toNat := by
  have q := (hcmp _ c e).symm.trans h
  have q := of_decide_eq_false q
  rw [Int.fdiv_eq_ediv_of_nonneg _ (by decide)] at *
  omega
theorem bisL_yes (hcmp : ∀ (j : Nat) (c : Col), cols[j]? = some c → (Float64.cmp (hueK c) x == some Ordering.lt) = decide (j < R)) (e : cols[((lo + hi).fdiv 2).toNat]? = some c) (h : (Float64.cmp (hueC c.1 c.2.1 c.2.2) x == some Ordering.lt) = true)
    (i0 : 0 ≤ lo) (i1 : lo ≤ (R : Int)) (i2 : (R : Int) ≤ hi) (i3 : hi ≤ (cols.length : Int)) (hlt : lo < hi) : (0 ≤ (lo + hi).fdiv 2 + 1 ∧ (lo + hi).fdiv 2 + 1 ≤ (R : Int) ∧ (R : Int) ≤ hi ∧ hi ≤ (cols.length : Int)) ∧ (hi - ((lo + hi).fdiv 2 + 1)).toNat < (hi - lo).toNat := by
  have q := (hcmp _ c e).symm.trans h
  have q := of_decide_eq_true q
  rw [Int.fdiv_eq_ediv_of_nonneg _ (by decide)] at *
  omega
theorem bisL_no (hcmp : ∀ (j : Nat) (c : Col), cols[j]? = some c → (Float64.cmp (hueK c) x == some Ordering.lt) = decide (j < R)) (e : cols[((lo + hi).fdiv 2).toNat]? = some c) (h : (Float64.cmp (hueC c.1 c.2.1 c.2.2) x == some Ordering.lt) = false)
    (i0 : 0 ≤ lo) (i1 : lo ≤ (R : Int)) (i2 : (R : Int) ≤ hi) (i3 : hi ≤ (cols.length : Int)) (hlt : lo < hi) : (0 ≤ lo ∧ lo ≤ (R : Int) ∧ (R : Int) ≤ (lo + hi).fdiv 2 ∧ (lo + hi).fdiv 2 ≤ (cols.length : Int)) ∧ ((lo + hi).fdiv 2 - lo).toNat < (hi - lo).toNat := by
  have q := (hcmp _ c e).symm.trans h
  have q := of_decide_eq_false q
  rw [Int.fdiv_eq_ediv_of_nonneg _ (by decide)] at *
  omega
end
local macro_rules | `(tactic| walk_at "subscriptTail") => `(tactic| ((with_reducible show wpAny _ _ (subscriptTail _ _ (Value.ref _) (Value.int (Int.fdiv _ _) _)) _ _ _); k_dflt (refine' row_item ?F ?R ?h0 ?h1 ?hh ?_ ?hs; (case F => k_asm); (case R => k_asm); (case h0 => exact mid_lo (by k_asm) (by k_asm)); (case h1 => exact mid_hi (by k_asm) (by k_asm)); (case hh => k_asm); (case hs => with_unfolding_all rfl)); intro c' a' t1' t2' t3' ec' il'; (obtain ⟨g1', g2', g3', g4'⟩ := hgood_of (by assumption) ec')))
local macro_rules | `(tactic| walk_at "exec While Compare") => `(tactic| (refine StopAt.go ?_))
local macro_rules | `(tactic| walk_at "exec While Compare cons nil") => `(tactic| (refine StopAt.go ?_))
set_option maxRecDepth 100000 in
set_option maxHeartbeats 8000000 in
theorem bisR_ctr : ∀ (w : World) (mean : ExcName → Option Value) (mg mb : Str → Option Value) (A : Around) (s : Shared) (Q E : Value → Shared → Prop)
   (l : Addr) (x : UInt64) (tx tl : Tok) (items : List Value) (cols : List Col) (R : Nat) (args : Args)
   (_ : (hd.heap_39 w.params).In s.heap) (_ : Top hd.view_39 LO mean mg mb s.heap) (_ : A.handled = none) (_ : A.depth + 16 < recursionLimit) (_ : A.units + 160 < cLine)
   (_ : (tl = 202 ∧ args = ⟨[.ref l, .float x tx], [(Str.ofString "key", .ref 71)]⟩) ∨ args = ⟨[.ref l, .float x tx, .int 0 tl, .none], [(Str.ofString "key", .ref 71)]⟩)
   (_ : RowAt s.heap l items cols) (_ : ∀ c ∈ cols, GoodCol c) (_ : cols.length < 100) (_ : R ≤ cols.length)
   (_ : ∀ (j : Nat) (c : Col), cols[j]? = some c → (Float64.cmp x (hueK c) == some Ordering.lt) = decide (R ≤ j))
   (_ : ∀ t h' tk', Kept s.heap h' → Q (.int R t) { s with heap := h', toks := tk' }),
   wpAny (model PySem.Challenge.rw_pe0137_01.row.prog w) A (call (.ref 32) args.pos args.kw) Q E s := by
  w_top off
  k_fill
  intro w mean mg mb A s Q E l x tx tl items cols R args X T hA hdp hun hargs hrow hgood hlen hR hcmp hret
  obtain ⟨ah, dp, fr, gd, un⟩ := A
  dsimp only at hA hdp hun
  subst hA
  refine wpAny_call ?_
  k_dflt (refine' enterP (binds := [(Str.ofString "a", .ref l), (Str.ofString "x", .float x tx), (Str.ofString "lo", .int 0 tl), (Str.ofString "hi", .none), (Str.ofString "key", .ref 71)]) ?k1 ?k2 ?k6 ?k7 ?k8 ?k9 ?kB ?_ ?c5 ?c2 ?c3 ?c4; (case k1 => k_asm); (case k2 => k_asm); (case k6 => k_is); (case k7 => k_is); (case k8 => ktr_room); (case k9 => rcases hargs with ⟨e1, e2⟩ | e2 <;> (try subst e1) <;> subst e2 <;> exact binds_K (by k_in) rfl (by k_is) rfl rfl rfl); (case kB => exact locs rfl); (case c5 => decide); (case c2 => exact rfl); (case c3 => exact rfl); (case c4 => exact rfl); k_whole; intro L' h' F' N'; (try dsimp only); (try k_fold))
  clear hargs
  k_steps
  unfold StopAt
  refine ksw_while (σ := Int × Tok × Int × Tok) (fun _ => []) (fun c => [(Str.ofString "lo", .int c.1 c.2.1), (Str.ofString "hi", .int c.2.2.1 c.2.2.2)]) (fun _ => True) [Str.ofString "mid"] (fun c => 0 ≤ c.1 ∧ c.1 ≤ (R : Int) ∧ (R : Int) ≤ c.2.2.1 ∧ c.2.2.1 ≤ (cols.length : Int)) (fun c => (c.2.2.1 - c.1).toNat) (0, tl, (cols.length : Int), _) (by assumption) (by assumption) trivial (List.forall_mem_cons.mpr ⟨rfl, List.forall_mem_cons.mpr ⟨rfl, fun _ h => nomatch h⟩⟩) ⟨by dsimp only; omega, by dsimp only; omega, by dsimp only; omega, by dsimp only; omega⟩ ?_ PassesOwn.never
  rintro ⟨lo, t1, hi, t2⟩ u h₁ tk₁ - ⟨i0, i1, i2, i3⟩ F1 N1
  dsimp only at i0 i1 i2 i3 F1 N1 ⊢
  k_sweep
  k_fold
  k_steps
  · have q := bisR_yes hcmp (by assumption) (by assumption) i0 i1 i2 i3 (by assumption)
    exact ksw_end (_, _, _, _) (by assumption) (by assumption) (fun _ h => nomatch h) trivial (List.forall_mem_cons.mpr ⟨rfl, List.forall_mem_cons.mpr ⟨rfl, fun _ h => nomatch h⟩⟩) (by intro z h2 h3; (simp only [List.forall_mem_cons, List.not_mem_nil, false_implies, implies_true, and_true, ne_eq] at h2); (simp only [List.contains_cons, List.contains_nil, Bool.or_false, beq_eq_false_iff_ne, ne_eq] at h3); simp [kstB, h2, h3]) q.1 q.2
  · have q := bisR_no hcmp (by assumption) (by assumption) i0 i1 i2 i3 (by assumption)
    exact ksw_end (_, _, _, _) (by assumption) (by assumption) (fun _ h => nomatch h) trivial (List.forall_mem_cons.mpr ⟨rfl, List.forall_mem_cons.mpr ⟨rfl, fun _ h => nomatch h⟩⟩) (by intro z h2 h3; (simp only [List.forall_mem_cons, List.not_mem_nil, false_implies, implies_true, and_true, ne_eq] at h2); (simp only [List.contains_cons, List.contains_nil, Bool.or_false, beq_eq_false_iff_ne, ne_eq] at h3); simp [kstB, h2, h3]) q.1 q.2
  · have e : lo = (R : Int) := by omega
    show Q (Value.int lo t1) _
    rw [e]
    exact hret _ _ _ (Fr.keep (by assumption))
set_option maxRecDepth 100000 in
set_option maxHeartbeats 8000000 in
theorem bisL_ctr : ∀ (w : World) (mean : ExcName → Option Value) (mg mb : Str → Option Value) (A : Around) (s : Shared) (Q E : Value → Shared → Prop)
   (l : Addr) (x : UInt64) (tx tl : Tok) (items : List Value) (cols : List Col) (R : Nat) (args : Args)
   (_ : (hd.heap_39 w.params).In s.heap) (_ : Top hd.view_39 LO mean mg mb s.heap) (_ : A.handled = none) (_ : A.depth + 16 < recursionLimit) (_ : A.units + 160 < cLine)
   (_ : (tl = 229 ∧ args = ⟨[.ref l, .float x tx], [(Str.ofString "key", .ref 71)]⟩) ∨ args = ⟨[.ref l, .float x tx, .int 0 tl, .none], [(Str.ofString "key", .ref 71)]⟩)
   (_ : RowAt s.heap l items cols) (_ : ∀ c ∈ cols, GoodCol c) (_ : cols.length < 100) (_ : R ≤ cols.length)
   (_ : ∀ (j : Nat) (c : Col), cols[j]? = some c → (Float64.cmp (hueK c) x == some Ordering.lt) = decide (j < R))
   (_ : ∀ t h' tk', Kept s.heap h' → Q (.int R t) { s with heap := h', toks := tk' }),
   wpAny (model PySem.Challenge.rw_pe0137_01.row.prog w) A (call (.ref 50) args.pos args.kw) Q E s := by
  w_top off
  k_fill
  intro w mean mg mb A s Q E l x tx tl items cols R args X T hA hdp hun hargs hrow hgood hlen hR hcmp hret
  obtain ⟨ah, dp, fr, gd, un⟩ := A
  dsimp only at hA hdp hun
  subst hA
  refine wpAny_call ?_
  k_dflt (refine' enterP (binds := [(Str.ofString "a", .ref l), (Str.ofString "x", .float x tx), (Str.ofString "lo", .int 0 tl), (Str.ofString "hi", .none), (Str.ofString "key", .ref 71)]) ?k1 ?k2 ?k6 ?k7 ?k8 ?k9 ?kB ?_ ?c5 ?c2 ?c3 ?c4; (case k1 => k_asm); (case k2 => k_asm); (case k6 => k_is); (case k7 => k_is); (case k8 => ktr_room); (case k9 => rcases hargs with ⟨e1, e2⟩ | e2 <;> (try subst e1) <;> subst e2 <;> exact binds_K (by k_in) rfl (by k_is) rfl rfl rfl); (case kB => exact locs rfl); (case c5 => decide); (case c2 => exact rfl); (case c3 => exact rfl); (case c4 => exact rfl); k_whole; intro L' h' F' N'; (try dsimp only); (try k_fold))
  clear hargs
  k_steps
  unfold StopAt
  refine ksw_while (σ := Int × Tok × Int × Tok) (fun _ => []) (fun c => [(Str.ofString "lo", .int c.1 c.2.1), (Str.ofString "hi", .int c.2.2.1 c.2.2.2)]) (fun _ => True) [Str.ofString "mid"] (fun c => 0 ≤ c.1 ∧ c.1 ≤ (R : Int) ∧ (R : Int) ≤ c.2.2.1 ∧ c.2.2.1 ≤ (cols.length : Int)) (fun c => (c.2.2.1 - c.1).toNat) (0, tl, (cols.length : Int), _) (by assumption) (by assumption) trivial (List.forall_mem_cons.mpr ⟨rfl, List.forall_mem_cons.mpr ⟨rfl, fun _ h => nomatch h⟩⟩) ⟨by dsimp only; omega, by dsimp only; omega, by dsimp only; omega, by dsimp only; omega⟩ ?_ PassesOwn.never
  rintro ⟨lo, t1, hi, t2⟩ u h₁ tk₁ - ⟨i0, i1, i2, i3⟩ F1 N1
  dsimp only at i0 i1 i2 i3 F1 N1 ⊢
  k_sweep
  k_fold
  k_steps
  · have q := bisL_yes hcmp (by assumption) (by assumption) i0 i1 i2 i3 (by assumption)
    exact ksw_end (_, _, _, _) (by assumption) (by assumption) (fun _ h => nomatch h) trivial (List.forall_mem_cons.mpr ⟨rfl, List.forall_mem_cons.mpr ⟨rfl, fun _ h => nomatch h⟩⟩) (by intro z h2 h3; (simp only [List.forall_mem_cons, List.not_mem_nil, false_implies, implies_true, and_true, ne_eq] at h2); (simp only [List.contains_cons, List.contains_nil, Bool.or_false, beq_eq_false_iff_ne, ne_eq] at h3); simp [kstB, h2, h3]) q.1 q.2
  · have q := bisL_no hcmp (by assumption) (by assumption) i0 i1 i2 i3 (by assumption)
    exact ksw_end (_, _, _, _) (by assumption) (by assumption) (fun _ h => nomatch h) trivial (List.forall_mem_cons.mpr ⟨rfl, List.forall_mem_cons.mpr ⟨rfl, fun _ h => nomatch h⟩⟩) (by intro z h2 h3; (simp only [List.forall_mem_cons, List.not_mem_nil, false_implies, implies_true, and_true, ne_eq] at h2); (simp only [List.contains_cons, List.contains_nil, Bool.or_false, beq_eq_false_iff_ne, ne_eq] at h3); simp [kstB, h2, h3]) q.1 q.2
  · have e : lo = (R : Int) := by omega
    show Q (Value.int lo t1) _
    rw [e]
    exact hret _ _ _ (Fr.keep (by assumption))
end Mine
end PartMD
section PartME
open PySem PySem.W PyProof.Rows PySem.Flt
namespace Mine
theorem kept_hide {g h : Heap} {l : Addr} (k : Kept g h) (n : g.get? l = none) : Kept g (h.hide l) := fun b o e => (Heap.hide_ne h (fun (q : b = l) => by rw [q, n] at e; cases e)).trans (k b o e)
theorem hide_kept {h : Heap} {l : Addr} : Kept (h.hide l) h := fun _ _ e => Heap.of_hide e
section
variable {prog : Program} {w : World} {A : Around} {s : Shared} {K : Frag} {p : Program} {loose : List Str} {mean : ExcName → Option Value} {mg mb : Str → Option Value}
theorem enterM {R : Result → Shared → Prop} {name qual : Str} {params : Arguments} {body : List Stmt} {scope : Scope} {dV kV doc pm cdv ct oc : Value} {an od : Option Addr} {osl : Array (Option Value)} {f l : Addr} {args : Args} {binds : List (Str × Value)} {ol : Obj}
    (X : K.In (s.heap.hide l)) (T : Top p loose mean mg mb (s.heap.hide l)) (hl : s.heap.get? l = some ol)
    (ho : K.lookup f = some ⟨oc, od, .func (fnOf name qual params body scope dV kV doc pm an cdv ct), osl⟩) (hcd : codeIn K cdv qual = true) (hroom : A.depth < recursionLimit)
    (hbind : BindsTo s (fnOf name qual params body scope dV kV doc pm an cdv ct) args binds) (hloc : ∀ y ∈ binds, scope.names.lookup y.1 = some .local)
    (h : ∀ L' h₁, Fr (s.heap.hide l) L' h₁ (fun y => binds.reverse.lookup y) → News (s.heap.hide l) L' h₁ [(l, ol)] →
      wpAny (model prog w) (A.deeper (envOf qual scope L' f cdv)) (execs body (envOf qual scope L' f cdv))
        (fun fl s' => R (.ok (.ret (match fl with | .ret v => v | _ => .none))) s') (fun _ _ => False)
        { s with heap := h₁, toks := s.toks + binds.length })
    (hcell : ∀ x ∈ scope.names, x.2 ≠ .cell) (hco : scope.isCoroutine = false) (hgen : scope.isGenerator = false) (hk : scope.kind = .function) : codeAny (model prog w) A (.call (.ref f) args) R s := by
  have X' : K.In s.heap := fun a o e => hide_kept _ _ (X a o e)
  refine codeAny_call_def (fd := fnOf name qual params body scope dV kV doc pm an cdv ct) (body := body) (binds := binds) hroom (X' _ _ ho) rfl (T.keeps hide_kept).nolimit (codeRec_of X' hcd) rfl hbind hcell hloc (fun h₁ hns hk₁ => ?_) hco hgen hk
  refine wpAny_mono (h s.heap.objs.size h₁ ⟨hns, fun b o e => hk₁ b o (hide_kept _ _ e), Nat.le_of_eq (Heap.hide_size _ _)⟩ fun p hp => ?_) (fun _ _ x => x) (fun _ _ x => x.elim)
  rcases List.mem_cons.mp hp with rfl | hp
  · exact ⟨hk₁ _ _ hl, Nat.ne_of_lt (Heap.lt_size hl), Heap.hide_self ..⟩
  · cases hp
end
def ColsAt (h : Heap) (items : List Value) (cols : List Col) : Prop := items.length = cols.length ∧ ∀ (i : Nat) (v : Value) (c : Col), items[i]? = some v → cols[i]? = some c → ColAt h v c
theorem ColsAt.kept {h h' : Heap} {items : List Value} {cols : List Col} (k : Kept h h') (x : ColsAt h items cols) : ColsAt h' items cols := ⟨x.1, fun i v c a b => (x.2 i v c a b).kept k⟩
theorem rowAt_of {h₀ h : Heap} {L l : Addr} {m : Str → Option Value} {items : List Value} {cols : List Col} {n : Nat} {news : List (Addr × Obj)} (F : Fr h₀ L h m) (N : News h₀ L h news) (hm : (l, listOf items.toArray n) ∈ news) (hc : ColsAt h₀ items cols) : RowAt h l items cols :=
  ⟨⟨_, (N _ hm).1, rfl, _, rfl⟩, hc.1, (hc.kept F.keep).2⟩
section
variable {w : World} {mean : ExcName → Option Value} {mg mb : Str → Option Value} {A : Around} {s : Shared} {Q E : Value → Shared → Prop}
   {l : Addr} {x : UInt64} {tx tl : Tok} {items : List Value} {cols : List Col} {R : Nat}
theorem bisR4 (h1 : (hd.heap_39 w.params).In s.heap) (h2 : Top hd.view_39 LO mean mg mb s.heap) (h3 : A.handled = none) (h4 : A.depth + 16 < recursionLimit) (h5 : A.units + 160 < cLine)
   (h7 : RowAt s.heap l items cols) (h8 : ∀ c ∈ cols, GoodCol c) (h9 : cols.length < 100) (h10 : R ≤ cols.length)
   (h11 : ∀ (j : Nat) (c : Col), cols[j]? = some c → (Float64.cmp x (hueK c) == some Ordering.lt) = decide (R ≤ j))
   (h12 : ∀ t h' tk', Kept s.heap h' → Q (.int R t) { s with heap := h', toks := tk' }) :
   wpAny (model PySem.Challenge.rw_pe0137_01.row.prog w) A (call (.ref 32) [.ref l, .float x tx, .int 0 tl, .none] [(Str.ofString "key", .ref 71)]) Q E s :=
  bisR_ctr w mean mg mb A s Q E l x tx tl items cols R ⟨[.ref l, .float x tx, .int 0 tl, .none], [(Str.ofString "key", .ref 71)]⟩ h1 h2 h3 h4 h5 (.inr rfl) h7 h8 h9 h10 h11 h12
theorem bisR2 (h1 : (hd.heap_39 w.params).In s.heap) (h2 : Top hd.view_39 LO mean mg mb s.heap) (h3 : A.handled = none) (h4 : A.depth + 16 < recursionLimit) (h5 : A.units + 160 < cLine)
   (h7 : RowAt s.heap l items cols) (h8 : ∀ c ∈ cols, GoodCol c) (h9 : cols.length < 100) (h10 : R ≤ cols.length)
   (h11 : ∀ (j : Nat) (c : Col), cols[j]? = some c → (Float64.cmp x (hueK c) == some Ordering.lt) = decide (R ≤ j))
   (h12 : ∀ t h' tk', Kept s.heap h' → Q (.int R t) { s with heap := h', toks := tk' }) :
   wpAny (model PySem.Challenge.rw_pe0137_01.row.prog w) A (call (.ref 32) [.ref l, .float x tx] [(Str.ofString "key", .ref 71)]) Q E s :=
  bisR_ctr w mean mg mb A s Q E l x tx 202 items cols R ⟨[.ref l, .float x tx], [(Str.ofString "key", .ref 71)]⟩ h1 h2 h3 h4 h5 (.inl ⟨rfl, rfl⟩) h7 h8 h9 h10 h11 h12
theorem bisL4 (h1 : (hd.heap_39 w.params).In s.heap) (h2 : Top hd.view_39 LO mean mg mb s.heap) (h3 : A.handled = none) (h4 : A.depth + 16 < recursionLimit) (h5 : A.units + 160 < cLine)
   (h7 : RowAt s.heap l items cols) (h8 : ∀ c ∈ cols, GoodCol c) (h9 : cols.length < 100) (h10 : R ≤ cols.length)
   (h11 : ∀ (j : Nat) (c : Col), cols[j]? = some c → (Float64.cmp (hueK c) x == some Ordering.lt) = decide (j < R))
   (h12 : ∀ t h' tk', Kept s.heap h' → Q (.int R t) { s with heap := h', toks := tk' }) :
   wpAny (model PySem.Challenge.rw_pe0137_01.row.prog w) A (call (.ref 50) [.ref l, .float x tx, .int 0 tl, .none] [(Str.ofString "key", .ref 71)]) Q E s :=
  bisL_ctr w mean mg mb A s Q E l x tx tl items cols R ⟨[.ref l, .float x tx, .int 0 tl, .none], [(Str.ofString "key", .ref 71)]⟩ h1 h2 h3 h4 h5 (.inr rfl) h7 h8 h9 h10 h11 h12
theorem bisL2 (h1 : (hd.heap_39 w.params).In s.heap) (h2 : Top hd.view_39 LO mean mg mb s.heap) (h3 : A.handled = none) (h4 : A.depth + 16 < recursionLimit) (h5 : A.units + 160 < cLine)
   (h7 : RowAt s.heap l items cols) (h8 : ∀ c ∈ cols, GoodCol c) (h9 : cols.length < 100) (h10 : R ≤ cols.length)
   (h11 : ∀ (j : Nat) (c : Col), cols[j]? = some c → (Float64.cmp (hueK c) x == some Ordering.lt) = decide (j < R))
   (h12 : ∀ t h' tk', Kept s.heap h' → Q (.int R t) { s with heap := h', toks := tk' }) :
   wpAny (model PySem.Challenge.rw_pe0137_01.row.prog w) A (call (.ref 50) [.ref l, .float x tx] [(Str.ofString "key", .ref 71)]) Q E s :=
  bisL_ctr w mean mg mb A s Q E l x tx 229 items cols R ⟨[.ref l, .float x tx], [(Str.ofString "key", .ref 71)]⟩ h1 h2 h3 h4 h5 (.inl ⟨rfl, rfl⟩) h7 h8 h9 h10 h11 h12
end
theorem fits_small {R n : Nat} (h : R ≤ n) (hn : n < 100) : Builtin.List.listFitsIndex (R : Int) = true := by unfold Builtin.List.listFitsIndex; simp; omega
theorem ins_at {items : List Value} {R : Nat} {y : Value} (h : R ≤ items.length) : kl_ins items (R : Int) y = items.take R ++ y :: items.drop R := by
  unfold kl_ins
  rw [if_neg (by omega), show min ((R : Int).toNat) items.length = R by omega]
theorem lenz {h : Heap} {items : List Value} {cols : List Col} (a : ColsAt h items cols) (b : cols.length < 100) : items.toArray.toList.length ≤ sizeLine := by
  have := a.1
  simp only [sizeLine]
  omega
theorem ins_ret {s : Shared} {Q : Value → Shared → Prop} {l lm : Addr} {items : List Value} {cols : List Col} {R n : Nat} (hret : ∀ h' tk', Kept (s.heap.hide l) h' → h'.get? l = some (listOf (items.take R ++ .ref lm :: items.drop R).toArray (n + 1)) → Q .none { s with heap := h', toks := tk' })
    (hc : ColsAt (s.heap.hide l) items cols) (hR : R ≤ cols.length) {L : Addr} {h' : Heap} {m : Str → Option Value} {tk : Nat} (F : Fr (s.heap.hide l) L h' m) (N : News (s.heap.hide l) L h' [(l, listOf (kl_ins items.toArray.toList (R : Int) (.ref lm)).toArray (n + 1))]) : Q .none { s with heap := h', toks := tk } := by
  refine hret h' tk F.keep ?_
  have := (N _ (.head _)).1
  rw [show items.toArray.toList = items from rfl, ins_at (by rw [hc.1]; exact hR)] at this
  exact this
local macro_rules | `(tactic| k_room) => `(tactic| ktr_room)
local macro_rules | `(tactic| k_units) => `(tactic| ktr_units)
local macro_rules | `(tactic| kun_lst) => `(tactic| exact lift_list (by k_asm) (by k_asm))
local macro_rules | `(tactic| walk_at "call ref") => `(tactic| ((with_reducible show wpAny _ _ (call (Value.ref 71) _) _ _ _); k_dflt (refine' hue_ctr _ _ _ _ _ _ _ _ _ _ _ _ _ _ _ ?X ?T ?h1 ?h2 ?h3 ?hl ?g1 ?g2 ?g3 ?g4 ?_; (case X => k_in); (case T => exact lift_top (by k_asm) (by k_asm)); (case h1 => exact rfl); (case h2 => ktr_room); (case h3 => ktr_units); (case hl => exact lift_list (by k_asm) (by k_asm)); (case g1 => k_asm); (case g2 => k_asm); (case g3 => k_asm); (case g4 => k_asm)); intro t' h' tk' k'; (obtain ⟨F', N'⟩ := kept_use (by k_asm) (by k_asm) k'); (try k_sweep); (try dsimp only)))
local macro_rules | `(tactic| walk_at "call ref") => `(tactic| ((with_reducible show wpAny _ _ (call (Value.ref 32) _ _) _ _ _); k_dflt (refine' bisR4 ?X ?T ?h1 ?h2 ?h3 ?hr ?hg ?hl ?hR ?hc ?_; (case X => k_in); (case T => exact lift_top (by k_asm) (by k_asm)); (case h1 => exact rfl); (case h2 => ktr_room); (case h3 => ktr_units); (case hr => exact rowAt_of (by k_asm) (by k_asm) (by k_mem) (by k_asm)); (case hg => k_asm); (case hl => k_asm); (case hR => k_asm); (case hc => k_asm)); intro t' h' tk' k'; (obtain ⟨F', N'⟩ := kept_use (by k_asm) (by k_asm) k'); (try k_sweep); (try dsimp only)))
local macro_rules | `(tactic| walk_at "call builtin:list.insert") => `(tactic| (k_dflt (refine' kl_insert (l := _) ?F ?N ?f ?e ?U ?z ?_; (case F => k_asm); (case N => k_asm); (case f => exact fits_small (by k_asm) (by k_asm)); (case e => exact rfl); (case U => exact Upd.head (fun _ h => nomatch h)); (case z => exact lenz (by k_asm) (by k_asm))); intro h' F' N'; (try k_sweep); (try dsimp only)))


set_option maxRecDepth 100000 in
set_option maxHeartbeats 8000000 in
theorem insR_ctr : ∀ (w : World) (mean : ExcName → Option Value) (mg mb : Str → Option Value) (A : Around) (s : Shared) (Q E : Value → Shared → Prop)
   (g : Heap) (l lm : Addr) (t1 t2 t3 : Tok) (mr mgn mbl : Int) (items : List Value) (n : Nat) (cols : List Col) (R : Nat)
   (_ : (hd.heap_39 w.params).In g) (_ : Top hd.view_39 LO mean mg mb g) (_ : Kept g s.heap) (_ : g.get? l = none) (_ : A.handled = none) (_ : A.depth + 24 < recursionLimit) (_ : A.units + 240 < cLine)
   (_ : s.heap.get? l = some (listOf items.toArray n)) (_ : ColsAt (s.heap.hide l) items cols) (_ : ∀ c ∈ cols, GoodCol c) (_ : cols.length < 100) (_ : R ≤ cols.length)
   (_ : (s.heap.hide l).IsList lm #[.int mr t1, .int mgn t2, .int mbl t3]) (_ : GoodCol (mr, mgn, mbl))
   (_ : ∀ (j : Nat) (c : Col), cols[j]? = some c → (Float64.cmp (hueC mr mgn mbl) (hueK c) == some Ordering.lt) = decide (R ≤ j))
   (_ : ∀ h' tk', Kept (s.heap.hide l) h' → h'.get? l = some (listOf (items.take R ++ .ref lm :: items.drop R).toArray (n + 1)) → Q .none { s with heap := h', toks := tk' }),
   wpAny (model PySem.Challenge.rw_pe0137_01.row.prog w) A (call (.ref 23) [.ref l, .ref lm] [(Str.ofString "key", .ref 71)]) Q E s := by
  w_top off
  k_fill
  intro w mean mg mb A s Q E g l lm t1 t2 t3 mr mgn mbl items n cols R X₀ T₀ kp gn hA hdp hun hl hcols hgood hlen hR hlm hgm hcmp hret
  obtain ⟨ah, dp, fr, gd, un⟩ := A
  dsimp only at hA hdp hun
  subst hA
  have X := Frag.In.keeps X₀ (kept_hide kp gn)
  have T := T₀.keeps (kept_hide kp gn)
  clear X₀ T₀
  obtain ⟨b1, b2, b3, b4⟩ := hgm
  dsimp only at b1 b2 b3 b4
  refine wpAny_call ?_
  k_dflt (refine' enterM (binds := [(Str.ofString "a", .ref l), (Str.ofString "x", .ref lm), (Str.ofString "lo", .int 0 189), (Str.ofString "hi", .none), (Str.ofString "key", .ref 71)]) ?k1 ?k2 ?kl ?k6 ?k7 ?k8 ?k9 ?kB ?_ ?c5 ?c2 ?c3 ?c4; (case k1 => k_asm); (case k2 => k_asm); (case kl => k_asm); (case k6 => k_is); (case k7 => k_is); (case k8 => ktr_room); (case k9 => exact binds_K (Frag.In.keeps X hide_kept) rfl (by k_is) rfl rfl rfl); (case kB => exact locs rfl); (case c5 => decide); (case c2 => exact rfl); (case c3 => exact rfl); (case c4 => exact rfl); k_whole; intro L' h' F' N'; (try dsimp only); (try k_fold))
  k_steps
  all_goals exact ins_ret hret hcols hR (by assumption) (by assumption)
local macro_rules | `(tactic| walk_at "call ref") => `(tactic| ((with_reducible show wpAny _ _ (call (Value.ref 50) _ _) _ _ _); k_dflt (refine' bisL4 ?X ?T ?h1 ?h2 ?h3 ?hr ?hg ?hl ?hR ?hc ?_; (case X => k_in); (case T => exact lift_top (by k_asm) (by k_asm)); (case h1 => exact rfl); (case h2 => ktr_room); (case h3 => ktr_units); (case hr => exact rowAt_of (by k_asm) (by k_asm) (by k_mem) (by k_asm)); (case hg => k_asm); (case hl => k_asm); (case hR => k_asm); (case hc => k_asm)); intro t' h' tk' k'; (obtain ⟨F', N'⟩ := kept_use (by k_asm) (by k_asm) k'); (try k_sweep); (try dsimp only)))
set_option maxRecDepth 100000 in
set_option maxHeartbeats 8000000 in
theorem insL_ctr : ∀ (w : World) (mean : ExcName → Option Value) (mg mb : Str → Option Value) (A : Around) (s : Shared) (Q E : Value → Shared → Prop)
   (g : Heap) (l lm : Addr) (t1 t2 t3 : Tok) (mr mgn mbl : Int) (items : List Value) (n : Nat) (cols : List Col) (R : Nat)
   (_ : (hd.heap_39 w.params).In g) (_ : Top hd.view_39 LO mean mg mb g) (_ : Kept g s.heap) (_ : g.get? l = none) (_ : A.handled = none) (_ : A.depth + 24 < recursionLimit) (_ : A.units + 240 < cLine)
   (_ : s.heap.get? l = some (listOf items.toArray n)) (_ : ColsAt (s.heap.hide l) items cols) (_ : ∀ c ∈ cols, GoodCol c) (_ : cols.length < 100) (_ : R ≤ cols.length)
   (_ : (s.heap.hide l).IsList lm #[.int mr t1, .int mgn t2, .int mbl t3]) (_ : GoodCol (mr, mgn, mbl))
   (_ : ∀ (j : Nat) (c : Col), cols[j]? = some c → (Float64.cmp (hueK c) (hueC mr mgn mbl) == some Ordering.lt) = decide (j < R))
   (_ : ∀ h' tk', Kept (s.heap.hide l) h' → h'.get? l = some (listOf (items.take R ++ .ref lm :: items.drop R).toArray (n + 1)) → Q .none { s with heap := h', toks := tk' }),
   wpAny (model PySem.Challenge.rw_pe0137_01.row.prog w) A (call (.ref 41) [.ref l, .ref lm] [(Str.ofString "key", .ref 71)]) Q E s := by
  w_top off
  k_fill
  intro w mean mg mb A s Q E g l lm t1 t2 t3 mr mgn mbl items n cols R X₀ T₀ kp gn hA hdp hun hl hcols hgood hlen hR hlm hgm hcmp hret
  obtain ⟨ah, dp, fr, gd, un⟩ := A
  dsimp only at hA hdp hun
  subst hA
  have X := Frag.In.keeps X₀ (kept_hide kp gn)
  have T := T₀.keeps (kept_hide kp gn)
  clear X₀ T₀
  obtain ⟨b1, b2, b3, b4⟩ := hgm
  dsimp only at b1 b2 b3 b4
  refine wpAny_call ?_
  k_dflt (refine' enterM (binds := [(Str.ofString "a", .ref l), (Str.ofString "x", .ref lm), (Str.ofString "lo", .int 0 216), (Str.ofString "hi", .none), (Str.ofString "key", .ref 71)]) ?k1 ?k2 ?kl ?k6 ?k7 ?k8 ?k9 ?kB ?_ ?c5 ?c2 ?c3 ?c4; (case k1 => k_asm); (case k2 => k_asm); (case kl => k_asm); (case k6 => k_is); (case k7 => k_is); (case k8 => ktr_room); (case k9 => exact binds_K (Frag.In.keeps X hide_kept) rfl (by k_is) rfl rfl rfl); (case kB => exact locs rfl); (case c5 => decide); (case c2 => exact rfl); (case c3 => exact rfl); (case c4 => exact rfl); k_whole; intro L' h' F' N'; (try dsimp only); (try k_fold))
  k_steps
  all_goals exact ins_ret hret hcols hR (by assumption) (by assumption)
end Mine
end PartME
section PartMF
open PySem PySem.W PyProof.Rows PySem.Flt
namespace Mine
def cross (p q : Col) : Int := (p.1 - p.2.2) * (q.2.1 - q.2.2) - (p.2.1 - p.2.2) * (q.1 - q.2.2)
section
variable {prog : Program} {w : World} {A : Around} {E : Value → Shared → Prop} {s : Shared} {Q : Value → Shared → Prop} {h₀ : Heap} {L : Addr} {m : Str → Option Value}
theorem list_item {value slice : PySem.Expr} {l : Addr} {items : Array Value} {k : Int} {u : Tok} {v : Value} (hL : s.heap.IsList l items) (h0 : 0 ≤ k) (h1 : k < 2 ^ 63) (hx : items[k.toNat]? = some v)
    (h : Q v s) (hs : subscripted slice false (.ref l) (.int k u) = operate [.ref l, .int k u] (getItem (.ref l) (.int k u)) := by with_unfolding_all rfl) :
    wpAny (model prog w) A (subscriptTail value slice (.ref l) (.int k u)) Q E s :=
  tail_any hL.typeIs slot_list_getitem.lookup (wpAny_getItem_list hL h0 h1 hx h) hs
theorem col_item0 {value slice : PySem.Expr} {l : Addr} {v0 v1 v2 : Value} {u : Tok} (hL : s.heap.IsList l #[v0, v1, v2]) (h : Q v0 s) (hs : subscripted slice false (.ref l) (.int 0 u) = operate [.ref l, .int 0 u] (getItem (.ref l) (.int 0 u))) :
    wpAny (model prog w) A (subscriptTail value slice (.ref l) (.int 0 u)) Q E s := list_item hL (by decide) (by decide) rfl h hs
theorem col_item1 {value slice : PySem.Expr} {l : Addr} {v0 v1 v2 : Value} {u : Tok} (hL : s.heap.IsList l #[v0, v1, v2]) (h : Q v1 s) (hs : subscripted slice false (.ref l) (.int 1 u) = operate [.ref l, .int 1 u] (getItem (.ref l) (.int 1 u))) :
    wpAny (model prog w) A (subscriptTail value slice (.ref l) (.int 1 u)) Q E s := list_item hL (by decide) (by decide) rfl h hs
theorem col_item2 {value slice : PySem.Expr} {l : Addr} {v0 v1 v2 : Value} {u : Tok} (hL : s.heap.IsList l #[v0, v1, v2]) (h : Q v2 s) (hs : subscripted slice false (.ref l) (.int 2 u) = operate [.ref l, .int 2 u] (getItem (.ref l) (.int 2 u))) :
    wpAny (model prog w) A (subscriptTail value slice (.ref l) (.int 2 u)) Q E s := list_item hL (by decide) (by decide) rfl h hs
end
theorem mul_ok {a b : Int} (h : -1000000000 ≤ a ∧ a ≤ 1000000000) : IntMulOk a b := IntMulOk.of_left (intBits_le_64 (by omega) (by omega))
local macro_rules | `(tactic| k_room) => `(tactic| ktr_room)
local macro_rules | `(tactic| k_units) => `(tactic| ktr_units)
local macro_rules | `(tactic| kun_lst) => `(tactic| exact lift_list (by k_asm) (by k_asm))
local macro_rules | `(tactic| walk_at "binaryOp Mult int int") => `(tactic| (with_reducible refine PyProof.Rows.mul_int ?_ (mul_ok ⟨by omega, by omega⟩)))
local macro_rules | `(tactic| walk_at "subscriptTail Name Constant ref int") => `(tactic| ((with_reducible show wpAny _ _ (subscriptTail _ (Expr.Constant _ _ _) (Value.ref _) (Value.int 0 _)) _ _ _); k_dflt (refine' col_item0 ?hL ?_ ?hs; (case hL => exact lift_list (by k_asm) (by k_asm)); (case hs => with_unfolding_all rfl)); (try dsimp only)))
local macro_rules | `(tactic| walk_at "subscriptTail Name Constant ref int") => `(tactic| ((with_reducible show wpAny _ _ (subscriptTail _ (Expr.Constant _ _ _) (Value.ref _) (Value.int 1 _)) _ _ _); k_dflt (refine' col_item1 ?hL ?_ ?hs; (case hL => exact lift_list (by k_asm) (by k_asm)); (case hs => with_unfolding_all rfl)); (try dsimp only)))
local macro_rules | `(tactic| walk_at "subscriptTail Name Constant ref int") => `(tactic| ((with_reducible show wpAny _ _ (subscriptTail _ (Expr.Constant _ _ _) (Value.ref _) (Value.int 2 _)) _ _ _); k_dflt (refine' col_item2 ?hL ?_ ?hs; (case hL => exact lift_list (by k_asm) (by k_asm)); (case hs => with_unfolding_all rfl)); (try dsimp only)))

set_option maxRecDepth 100000 in
set_option maxHeartbeats 8000000 in
theorem cross_ctr : ∀ (w : World) (mean : ExcName → Option Value) (mg mb : Str → Option Value) (A : Around) (s : Shared) (Q E : Value → Shared → Prop)
   (l l' : Addr) (r g b r' g' b' : Int) (t1 t2 t3 t1' t2' t3' : Tok)
   (_ : (hd.heap_39 w.params).In s.heap) (_ : Top hd.view_39 LO mean mg mb s.heap) (_ : A.handled = none) (_ : A.depth + 12 < recursionLimit) (_ : A.units + 120 < cLine)
   (_ : s.heap.IsList l #[.int r t1, .int g t2, .int b t3]) (_ : s.heap.IsList l' #[.int r' t1', .int g' t2', .int b' t3'])
   (_ : 0 ≤ r ∧ r ≤ 4096) (_ : 0 ≤ g ∧ g ≤ 4096) (_ : 0 ≤ b ∧ b ≤ 4096)
   (_ : ∀ t h' tk', Kept s.heap h' → Q (.int (cross (r, g, b) (r', g', b')) t) { s with heap := h', toks := tk' }),
   wpAny (model PySem.Challenge.rw_pe0137_01.row.prog w) A (call (.ref 78) [.ref l, .ref l']) Q E s := by
  w_top off
  k_fill
  intro w mean mg mb A s Q E l l' r g b r' g' b' t1 t2 t3 t1' t2' t3' X T hA hdp hun hl hl' hr hg hb hret
  obtain ⟨ah, dp, fr, gd, un⟩ := A
  dsimp only at hA hdp hun
  subst hA
  refine wpAny_call ?_
  k_dflt (refine' enterP (binds := [(Str.ofString "one", .ref l), (Str.ofString "two", .ref l')]) ?k1 ?k2 ?k6 ?k7 ?k8 ?k9 ?kB ?_ ?c5 ?c2 ?c3 ?c4; (case k1 => k_asm); (case k2 => k_asm); (case k6 => k_is); (case k7 => k_is); (case k8 => ktr_room); (case k9 => exact BindsTo.of_eq rfl); (case kB => exact locs rfl); (case c5 => decide); (case c2 => exact rfl); (case c3 => exact rfl); (case c4 => exact rfl); k_whole; intro L' h' F' N'; (try dsimp only); (try k_fold))
  k_steps
  trace_state
  all_goals exact hret _ _ _ (Fr.keep (by assumption))
end Mine
end PartMF
section PartMZ
open PySem PySem.W PyProof.Rows PySem.Flt
namespace Mine
def ZipAt (h : Heap) (z TI TO i1 i2 l1 l2 : Addr) (xs ys : Array Value) (i : Nat) : Prop :=
  IsZip h z TI TO .none ∧ IsPair h TI (.ref i1) (.ref i2) ∧ (∃ a b, IsPair h TO a b) ∧ h.IsListIter i1 l1 i ∧ h.IsListIter i2 l2 i ∧ h.IsList l1 xs ∧ h.IsList l2 ys
section
variable {prog : Program} {w : World} {A : Around} {E : Value → Shared → Prop} {env : Env}
theorem zip_core {elt iter : PySem.Expr} {x x₂ : Str} {px px₂ tp : Pos} {kk : Nat} {scope : Scope} {cl : List (Str × Addr)} {pos : Pos} {s₁ : Shared} {z TI TO i1 i2 l1 l2 : Addr} {xs ys : Array Value} {G : Nat → Value → Prop} {RR : Value → Addr → Result → Shared → Prop} {B : Heap}
    (hh : A.handled = none) (D : ZipApart z TI TO i1 i2 l1 l2) (hsz : xs.size ≤ sizeLine) (hxy : ys.size = xs.size) (hst : ZipAt s₁.heap z TI TO i1 i2 l1 l2 xs ys 0)
    (hB : Kept B s₁.heap) (nz : B.get? z = none) (nTO : B.get? TO = none) (n1 : B.get? i1 = none) (n2 : B.get? i2 = none)
    (hcell : ∀ y ∈ scope.names, y.2 ≠ .cell) (hkind : scope.kind = .function) (hx : scope.names.lookup x = some .local) (hx₂ : scope.names.lookup x₂ = some .local) (hxx : x ≠ x₂)
    (helt : ∀ (i : Nat) (v1 v2 : Value) C (s₂ : Shared) m₂ E', xs[i]? = some v1 → ys[i]? = some v2 → s₂.heap.Ns C m₂ → m₂ x = some v1 → m₂ x₂ = some v2 → Kept B s₂.heap →
      wpAny (model prog w) A (eval elt (compEnvC scope cl C env)) (fun y s₃ => G i y ∧ Keeps s₂ s₃) E' s₂)
    (hRR : ∀ D C h tk m' (vs : List Value) n, B.get? D = none → D ≠ C → B.get? C = none → h.Ns C m' → h.get? D = some (listOf vs.toArray n) → vs.length = xs.size → (∀ (i : Nat) y, vs[i]? = some y → G i y) → Kept B h →
      RR (.ref D) C (.ok .next) { s₁ with heap := h, toks := tk }) :
    wpAny (model prog w) A (newList []) (fun acc s₃ => wpAny (model prog w) A (newFunctionEnv scope env.globals cl [] env.qual none .none (some env)) (fun cenv s₄ =>
      codeAny (model prog w) A (.compStart (.ListComp elt [⟨.Tuple [.Name x px, .Name x₂ px₂] kk tp, iter, [], 0⟩] scope pos) 0 (.ref z) acc { cenv with scope := relabel scope env }) (RR acc cenv.locals) s₄) E s₃) E s₁ := by
  have W := WalksT.zip2 (prog := prog) (w := w) hh z TI TO i1 i2 l1 l2 D xs ys
  have hmin : min xs.size ys.size = xs.size := by rw [hxy]; exact Nat.min_self _
  rw [hmin] at W
  refine wpAny_newObj_type (wpAny_newFunctionEnv hcell (by intro y hy; simp at hy) (fun h₁ hns₁ hsb₁ => ?_) hkind)
  dsimp only at hns₁ hsb₁ ⊢
  generalize hH2 : s₁.heap.push { cls := .type "list", dict := none, data := .seq ([] : List Value).toArray } = H2 at hns₁ hsb₁ ⊢
  have hC : H2.objs.size = s₁.heap.objs.size + 1 := by rw [← hH2, Heap.size_push]
  have hDC : s₁.heap.objs.size ≠ H2.objs.size := by rw [hC]; exact Nat.ne_of_lt (Nat.lt_succ_self _)
  have below : ∀ b o, s₁.heap.get? b = some o → b ≠ H2.objs.size ∧ b ≠ s₁.heap.objs.size := fun b o e => ⟨by rw [hC]; exact Nat.ne_of_lt (Nat.lt_succ_of_lt (Heap.lt_size e)), Nat.ne_of_lt (Heap.lt_size e)⟩
  have old : ∀ b o, s₁.heap.get? b = some o → h₁.get? b = some o := fun b o e => hsb₁.extBut b o (below b o e).1 (Heap.get?_push_of_some _ (hH2 ▸ Heap.get?_push_of_some _ e))
  have hacc : h₁.get? s₁.heap.objs.size = some (listOf ([] : List Value).toArray 0) := hsb₁.extBut _ _ hDC (Heap.get?_push_of_some _ (hH2 ▸ Heap.get?_push_size _ rfl))
  have fresh : ∀ a, s₁.heap.objs.size ≤ a → B.get? a = none := fun a ha => by
    cases e : B.get? a with
    | none => rfl
    | some o' => exact absurd (Heap.lt_size (hB a o' e)) (Nat.not_lt.mpr ha)
  have hDn : B.get? s₁.heap.objs.size = none := fresh _ (Nat.le_refl _)
  have hCn : B.get? H2.objs.size = none := fresh _ (by rw [hC]; exact Nat.le_succ _)
  have inFp : ∀ b ∈ [z, TI, TO, i1, i2, l1, l2], ∃ o, s₁.heap.get? b = some o := by
    obtain ⟨a1, a2, ⟨u, v, a3⟩, ⟨o4, a4, _⟩, ⟨o5, a5, _⟩, ⟨o6, a6, _⟩, ⟨o7, a7, _⟩⟩ := hst
    intro b hb
    simp only [List.mem_cons, List.not_mem_nil, or_false] at hb
    rcases hb with rfl | rfl | rfl | rfl | rfl | rfl | rfl
    · exact ⟨_, a1⟩
    · exact ⟨_, a2⟩
    · exact ⟨_, a3⟩
    · exact ⟨_, a4⟩
    · exact ⟨_, a5⟩
    · exact ⟨_, a6⟩
    · exact ⟨_, a7⟩
  have fpD : ∀ b ∈ [z, TI, TO, i1, i2, l1, l2], b ≠ s₁.heap.objs.size := fun b hb => by obtain ⟨o, e⟩ := inFp b hb; exact (below b o e).2
  have fpC : ∀ b ∈ [z, TI, TO, i1, i2, l1, l2], b ≠ H2.objs.size := fun b hb => by obtain ⟨o, e⟩ := inFp b hb; exact (below b o e).1
  have wrB : ∀ b o, B.get? b = some o → b ∉ [z, TO, i1, i2] := fun b o e hb => by
    simp only [List.mem_cons, List.not_mem_nil, or_false] at hb
    rcases hb with rfl | rfl | rfl | rfl
    · rw [nz] at e; cases e
    · rw [nTO] at e; cases e
    · rw [n1] at e; cases e
    · rw [n2] at e; cases e
  have wrD : s₁.heap.objs.size ∉ [z, TO, i1, i2] := fun hb => fpD _ (W.sub _ hb) rfl
  have wrC : H2.objs.size ∉ [z, TO, i1, i2] := fun hb => fpC _ (W.sub _ hb) rfl
  have loop : ∀ s₃ : Shared, s₃ = { s₁ with heap := h₁, toks := s₁.toks + ([] : List (Str × Value)).length } →
      codeAny (model prog w) A (.compLoop (.ListComp elt [⟨.Tuple [.Name x px, .Name x₂ px₂] kk tp, iter, [], 0⟩] scope pos) 0 (.ref z) (.ref s₁.heap.objs.size) (compEnvC scope cl H2.objs.size env))
        (RR (.ref s₁.heap.objs.size) H2.objs.size) s₃ := by
    rintro s₃ rfl
    refine LCp.codeAny_compLoop_pair
      (fun k s' => ∃ h' tk i m' vs n, s' = { s₁ with heap := h', toks := tk } ∧ i ≤ xs.size ∧ k = xs.size + 1 - i ∧ ZipAt h' z TI TO i1 i2 l1 l2 xs ys i ∧ h'.Ns H2.objs.size m' ∧
        h'.get? s₁.heap.objs.size = some (listOf (vs : List Value).toArray n) ∧ vs.length = i ∧ (∀ (j : Nat) y, vs[j]? = some y → G j y) ∧ Kept B h') ?_ (xs.size + 1)
      ⟨h₁, _, 0, _, [], 0, rfl, Nat.zero_le _, rfl, W.frame _ _ _ hst fun b _ o e => old b o e, hns₁, hacc, rfl, fun j y e => by simp at e, hB.trans old⟩
    rintro k s' ⟨h', tk, i, m', vs, n, rfl, hi, rfl, hst', hn', hacc', hlen, hG, hB'⟩
    by_cases hlt : i < xs.size
    · refine W.item i _ _ _ hlt hst' fun T vals h₂ tk₂ hPt hT hTup hMid hk₂ => ?_
      obtain ⟨v1, v2, e1, e2, rfl⟩ := hPt
      refine W.go _ _ _ i T _ _ _ hMid fun h₃ hst₃ hk₃ => ?_
      have hTup₃ : IsTup h₃ T #[v1, v2] := by
        obtain ⟨o, ho, r⟩ := hTup
        exact ⟨o, hk₃ T o (W.apart _ _ _ hMid) ho, r⟩
      have hn₃ : h₃.Ns H2.objs.size m' := (hn'.at' fun o e => hk₂ _ o wrC e).at' fun o e => hk₃ _ o wrC e
      have hB₃ : Kept B h₃ := fun b o e => hk₃ b o (wrB b o e) (hk₂ b o (wrB b o e) (hB' b o e))
      have hacc₃ : h₃.get? s₁.heap.objs.size = some (listOf vs.toArray n) := hk₃ _ _ wrD (hk₂ _ _ wrD hacc')
      refine assign_Tuple_tuple hh hTup₃ rfl rfl fun h₄ he => ?_
      have he' : ∀ b o, h₃.get? b = some o → h₄.get? b = some o := fun b o e => he b o (Nat.ne_of_lt (Heap.lt_size e)) e
      refine assignInOrder_cons (wpAny_assign_Name (wpAny_storeName_local (lookup_relabel_local hx) (hn₃.at' fun o e => he' _ o e) (fun h₅ hn₅ hs₅ => ?_) (by simp [compEnvC, relabel, hkind])))
      refine assignInOrder_cons (wpAny_assign_Name (wpAny_storeName_local (lookup_relabel_local hx₂) hn₅ (fun h₆ hn₆ hs₆ => ?_) (by simp [compEnvC, relabel, hkind])))
      refine assignInOrder_nil ?_
      have up₆ : ∀ b o, b ≠ H2.objs.size → h₃.get? b = some o → h₆.get? b = some o := fun b o hb e => hs₆.extBut b o hb (hs₅.extBut b o hb (he' b o e))
      have hB₆ : Kept B h₆ := fun b o e => up₆ b o (fun q => by rw [q, hCn] at e; cases e) (hB₃ b o e)
      refine wpAny_mono (helt i v1 v2 H2.objs.size _ _ _ e1 e2 hn₆ (by simp [hxx]) (by simp) hB₆) (fun y s₇ h₇ => ?_) fun _ _ e => e
      obtain ⟨hGy, h₇, tk₇, rfl, hk₇⟩ := h₇
      have hacc₇ : h₇.get? s₁.heap.objs.size = some (listOf vs.toArray n) := hk₇ _ _ (up₆ _ _ hDC hacc₃)
      refine append_at (hsz := by rw [List.size_toArray, hlen]; exact Nat.le_trans hi hsz) hacc₇ fun h₈ hs₈ hD₈ => ?_
      refine ⟨xs.size + 1 - (i + 1), by omega, h₈, tk₇, i + 1, _, vs ++ [y], n + 1, rfl, hlt, rfl, ?_, (hn₆.at' fun o e => hk₇ _ o e).sameBut hs₈ (Ne.symm hDC), ?_, by simp [hlen], ?_, ?_⟩
      · exact W.frame _ _ _ hst₃ fun b hb o e => hs₈.extBut b o (fpD b hb) (hk₇ _ _ (up₆ b o (fpC b hb) e))
      · rw [hD₈]; simp
      · intro j y' e
        by_cases hj : j < vs.length
        · rw [List.getElem?_append_left hj] at e; exact hG j y' e
        · rw [List.getElem?_append_right (by omega)] at e
          have hj0 : j - vs.length = 0 := by
            cases q : j - vs.length with
            | zero => rfl
            | succ t => rw [q] at e; simp at e
          rw [hj0] at e
          simp at e
          have : j = i := by omega
          rw [this, ← e]; exact hGy
      · exact fun b o e => hs₈.extBut b o (fun q => by rw [q, hDn] at e; cases e) (hk₇ _ _ (hB₆ b o e))
    · obtain rfl : i = xs.size := Nat.le_antisymm hi (Nat.not_lt.mp hlt)
      refine W.done _ _ _ hst' fun h₂ tk₂ hk₂ => ?_
      exact hRR _ _ h₂ tk₂ _ vs n hDn hDC hCn (hn'.at' fun o e => hk₂ _ o wrC e) (hk₂ _ _ wrD hacc') hlen hG fun b o e => hk₂ b o (wrB b o e) (hB' b o e)
  exact codeAny_compStart_list (loop _ rfl) (W.self 0 _ _ _ (W.frame _ _ _ hst fun b _ o e => old b o e) (loop _ rfl))
def ZipSrc (s : Shared) (l1 l2 : Addr) (xs ys : Array Value) (xv : Value) (s₁ : Shared) : Prop :=
  ∃ z TI TO i1 i2, xv = .ref z ∧ ZipApart z TI TO i1 i2 l1 l2 ∧ ZipAt s₁.heap z TI TO i1 i2 l1 l2 xs ys 0 ∧ Kept s.heap s₁.heap ∧ s.heap.get? z = none ∧ s.heap.get? TO = none ∧ s.heap.get? i1 = none ∧ s.heap.get? i2 = none ∧ ∃ h tk, s₁ = { s with heap := h, toks := tk }
theorem get_none_of_ge {h : Heap} {a : Addr} (ha : h.objs.size ≤ a) : h.get? a = none := by
  cases e : h.get? a with
  | none => rfl
  | some o' => exact absurd (Heap.lt_size e) (Nat.not_lt.mpr ha)
theorem zipApart_of {n l1 l2 : Nat} (q1 : l1 < n) (q2 : l2 < n) : ZipApart (n + 4) (n + 2) (n + 3) n (n + 1) l1 l2 := by
  have gg : ∀ {a b : Nat}, a ≠ b → (show Addr from a) ≠ b := fun h => h
  constructor <;> (refine gg ?_; omega)
theorem zip_call {s s' : Shared} {l1 l2 : Addr} {xs ys : Array Value} (hl1 : s'.heap.IsList l1 xs) (hl2 : s'.heap.IsList l2 ys) (hs : ∃ tk, s' = { s with toks := tk }) :
    wpAny (model prog w) A (call (.type "zip") [.ref l1, .ref l2]) (ZipSrc s l1 l2 xs ys) E s' := by
  obtain ⟨tk, rfl⟩ := hs
  refine call_zip_2 hl1 hl2 fun h' a1 a2 a3 a4 a5 a6 a7 => ?_
  have q1 : l1 < s.heap.objs.size := by obtain ⟨_, e, _⟩ := hl1; exact Heap.lt_size e
  have q2 : l2 < s.heap.objs.size := by obtain ⟨_, e, _⟩ := hl2; exact Heap.lt_size e
  refine ⟨_, _, _, _, _, rfl, zipApart_of q1 q2, ⟨a1, a2, ⟨_, _, a3⟩, a4, a5, hl1.at fun o e => a7 _ o e, hl2.at fun o e => a7 _ o e⟩, a7, get_none_of_ge (Nat.le_add_right _ _), get_none_of_ge (Nat.le_add_right _ _), get_none_of_ge (Nat.le_refl _), get_none_of_ge (Nat.le_add_right _ _), ⟨_, _, rfl⟩⟩
theorem comp_zip {elt iter : PySem.Expr} {x x₂ : Str} {px px₂ tp : Pos} {kk : Nat} {scope : Scope} {cl : List (Str × Addr)} {pos : Pos} {s : Shared} {l1 l2 : Addr} {xs ys : Array Value} (G : Nat → Value → Prop) {Q : Value → Shared → Prop}
    (hh : A.handled = none) (hsz : xs.size ≤ sizeLine) (hxy : ys.size = xs.size)
    (hclos : closureFor scope env = pure cl) (hcell : ∀ y ∈ scope.names, y.2 ≠ .cell) (hkind : scope.kind = .function)
    (hnames : ∀ y ∈ scope.names, y.2 = .local → scope.names.lookup y.1 = some .local) (hx : scope.names.lookup x = some .local) (hx₂ : scope.names.lookup x₂ = some .local) (hxx : x ≠ x₂)
    (h : wpAny (model prog w) A (eval iter env) (ZipSrc s l1 l2 xs ys) E s)
    (helt : ∀ (i : Nat) (v1 v2 : Value) C (s₂ : Shared) m₂ E', xs[i]? = some v1 → ys[i]? = some v2 → s₂.heap.Ns C m₂ → m₂ x = some v1 → m₂ x₂ = some v2 → Kept s.heap s₂.heap →
      wpAny (model prog w) A (eval elt (compEnvC scope cl C env)) (fun y s₃ => G i y ∧ Keeps s₂ s₃) E' s₂)
    (hQ : ∀ D h' tk (vs : List Value) n, s.heap.get? D = none → h'.get? D = some (listOf vs.toArray n) → vs.length = xs.size → (∀ (i : Nat) y, vs[i]? = some y → G i y) → Kept s.heap h' → Q (.ref D) { s with heap := h', toks := tk })
    (hs : ∀ x, foldedSetIterable iter env x = pure x) :
    wpAny (model prog w) A (eval (.ListComp elt [⟨.Tuple [.Name x px, .Name x₂ px₂] kk tp, iter, [], 0⟩] scope pos) env) Q E s := by
  rw [eval_ListComp]
  refine wpAny_comprehension_free (use := none) rfl hs hclos hkind hnames (wpAny_mono h (fun xv s₁ h₁ => ?_) fun _ _ e => e)
  obtain ⟨z, TI, TO, i1, i2, rfl, D, hst, hB, nz, nTO, n1, n2, h₁, tk₁, rfl⟩ := h₁
  refine wpAny_pyIter_zip hst.1 ?_
  refine zip_core hh D hsz hxy hst hB nz nTO n1 n2 hcell hkind hx hx₂ hxx helt ?_
  intro D C h' tk m' vs n hD hDC hC hn hl hlen hG hk
  refine ⟨m', hn, fun h'' hs'' => hQ D h'' tk vs n hD (hs''.extBut _ _ hDC hl) hlen hG fun b o e => hs''.extBut b o (fun q => by rw [q, hC] at e; cases e) (hk b o e)⟩
theorem assign_zip {elt iter : PySem.Expr} {x x₂ y : Str} {px px₂ py tp : Pos} {kk : Nat} {scope : Scope} {cl : List (Str × Addr)} {pos spos : Pos} {s : Shared} {l1 l2 : Addr} {xs ys : Array Value} (G : Nat → Value → Prop) {Q : Flow → Shared → Prop}
    (hh : A.handled = none) (hsz : xs.size ≤ sizeLine) (hxy : ys.size = xs.size)
    (hsw : swapsWith (.ListComp elt [⟨.Tuple [.Name x px, .Name x₂ px₂] kk tp, iter, [], 0⟩] scope pos) (some (.Name y py)) spos.line env = pure true)
    (hclos : closureFor scope env = pure cl) (hcell : ∀ y ∈ scope.names, y.2 ≠ .cell) (hkind : scope.kind = .function)
    (hnames : ∀ y ∈ scope.names, y.2 = .local → scope.names.lookup y.1 = some .local) (hx : scope.names.lookup x = some .local) (hx₂ : scope.names.lookup x₂ = some .local) (hxx : x ≠ x₂)
    (h : wpAny (model prog w) A (eval iter env) (ZipSrc s l1 l2 xs ys) E s)
    (helt : ∀ (i : Nat) (v1 v2 : Value) C (s₂ : Shared) m₂ E', xs[i]? = some v1 → ys[i]? = some v2 → s₂.heap.Ns C m₂ → m₂ x = some v1 → m₂ x₂ = some v2 → Kept s.heap s₂.heap →
      wpAny (model prog w) A (eval elt (compEnvC scope cl C env)) (fun y s₃ => G i y ∧ Keeps s₂ s₃) E' s₂)
    (hQ : ∀ D h' tk (vs : List Value) n, s.heap.get? D = none → h'.get? D = some (listOf vs.toArray n) → vs.length = xs.size → (∀ (i : Nat) y, vs[i]? = some y → G i y) → Kept s.heap h' →
      wpAny (model prog w) A (storeName env y (.ref D)) (fun _ s' => (∃ h tk, s' = { s with heap := h, toks := tk }) ∧ (∀ a o, a ≠ env.locals → h'.get? a = some o → s'.heap.get? a = some o) ∧ ∀ h'' C, s.heap.get? C = none → C ≠ D → Heap.SameBut C s'.heap h'' → Q .next { s' with heap := h'' }) E { s with heap := h', toks := tk })
    (hL : (s.heap.get? env.locals).isSome = true)
    (hs : ∀ x, foldedSetIterable iter env x = pure x) :
    wpAny (model prog w) A (exec (.Assign [.Name y py] (.ListComp elt [⟨.Tuple [.Name x px, .Name x₂ px₂] kk tp, iter, [], 0⟩] scope pos) spos) env) Q E s := by
  rw [exec_Assign_Name_used _ _ _ _ hsw]
  refine wpAny_bind (wpAny_standAt (wpAny_bind ?_))
  show wpAny _ A (do let _ ← comprehension (.ListComp elt [⟨.Tuple [.Name x px, .Name x₂ px₂] kk tp, iter, [], 0⟩] scope pos) scope env _ (newList []) false (eval iter env) (some (assign (.Name y py) env))) _ _ s
  refine wpAny_bind (wpAny_mono (wpAny_comprehension_free (use := some (assign (.Name y py) env)) (Q := fun _ s' => Q .next s') rfl hs hclos hkind hnames
    (wpAny_mono h (fun xv s₁ h₁ => ?_) fun _ _ e => e)) (fun _ s' hq => wpAny_pure (wpAny_pure hq)) fun _ _ e => e)
  obtain ⟨z, TI, TO, i1, i2, rfl, D, hst, hB, nz, nTO, n1, n2, h₁, tk₁, rfl⟩ := h₁
  refine wpAny_pyIter_zip hst.1 ?_
  refine zip_core hh D hsz hxy hst hB nz nTO n1 n2 hcell hkind hx hx₂ hxx helt ?_
  intro D C h' tk m' vs n hD hDC hC hn hl hlen hG hk
  show wpAny _ A (assign (.Name y py) env (.ref D)) _ _ _
  refine wpAny_assign_Name (wpAny_mono (hQ D h' tk vs n hD hl hlen hG hk) (fun _ s' hq => ?_) fun _ _ e => e)
  obtain ⟨_, h3, h4⟩ := hq
  have hCL : C ≠ env.locals := fun q => by rw [← q, hC] at hL; cases hL
  exact ⟨m', hn.at' fun o e => h3 _ o hCL e, fun h'' hs'' => h4 h'' C hC (Ne.symm hDC) hs''⟩
end
end Mine
end PartMZ
section PartMG
open PySem PySem.W PyProof.Rows PySem.Flt
namespace Mine
def q8 (n : Int) : UInt64 := Float64.div (Float64.ofInt n) 4620693217682128896
def toneK (c : Col) : UInt64 := hueF (q8 c.1) (q8 c.2.1) (q8 c.2.2)
def HlsOk (r g b : UInt64) : Prop := (Float64.cmp (min3 r g b) (max3 r g b) == some Ordering.eq) = false → Float64.isZero (Float64.sub (max3 r g b) (min3 r g b)) = false ∧ Float64.isZero (Float64.add (max3 r g b) (min3 r g b)) = false ∧ Float64.isZero (Float64.sub (Float64.sub 4611686018427387904 (max3 r g b)) (min3 r g b)) = false
theorem div_8 {prog : Program} {w : World} {A : Around} {E : Value → Shared → Prop} {s : Shared} {Q : Value → Shared → Prop} {n : Int} {t u : Tok} (hA : A.handled = none) (h0 : 0 ≤ n) (h1 : n ≤ 8)
    (h : Q (.float (q8 n) s.toks) { s with toks := s.toks + 1 }) : wpAny (model prog w) A (binaryOp .Div (.int n u) (.float 4620693217682128896 t)) Q E s :=
  truediv_if hA (fun ho => by exfalso; unfold Over at ho; omega) (fun _ hz => by exfalso; revert hz; decide +kernel) fun _ _ => h
theorem rowAt_lift {h₀ h : Heap} {L l : Addr} {m : Str → Option Value} {items : List Value} {cols : List Col} (F : Fr h₀ L h m) (r : RowAt h₀ l items cols) : RowAt h l items cols := r.kept F.keep
section
variable {prog : Program} {w : World} {A : Around} {s : Shared} {K : Frag} {p : Program} {loose : List Str} {mean : ExcName → Option Value} {mg mb : Str → Option Value}
theorem enterC {R : Result → Shared → Prop} {name qual : Str} {params : Arguments} {body : List Stmt} {scope : Scope} {dV kV doc pm cdv ct oc : Value} {an od : Option Addr} {osl : Array (Option Value)} {f : Addr} {args : Args} {binds : List (Str × Value)}
    (X : K.In s.heap) (T : Top p loose mean mg mb s.heap)
    (ho : K.lookup f = some ⟨oc, od, .func (fnOf name qual params body scope dV kV doc pm an cdv ct), osl⟩) (hcd : codeIn K cdv qual = true) (hroom : A.depth < recursionLimit)
    (hbind : BindsTo s (fnOf name qual params body scope dV kV doc pm an cdv ct) args binds) (hkind : (binds.all fun y => scope.names.lookup y.1 == some .local || scope.names.lookup y.1 == some .cell) = true)
    (hnd : ((cellsFrom 0 scope.names []).map (·.1)).Nodup)
    (h : ∀ L' h₁ tk cells, Fr s.heap L' h₁ (bindL (envOfC qual scope L' f cdv).kindOf binds fun _ => none) → News s.heap L' h₁ cells →
      CellsAre (bindC (envOfC qual scope L' f cdv).kindOf binds fun _ => none) (cellsFrom (L' + 1) scope.names []) cells →
      wpAny (model prog w) (A.deeper (envOfC qual scope L' f cdv)) (execs body (envOfC qual scope L' f cdv))
        (fun fl s' => R (.ok (.ret (match fl with | .ret v => v | _ => .none))) s') (fun _ _ => False)
        { s with heap := h₁, toks := tk })
    (hco : scope.isCoroutine = false) (hgen : scope.isGenerator = false) (hk : scope.kind = .function) : codeAny (model prog w) A (.call (.ref f) args) R s := by
  refine codeAny_call_function hroom (X _ _ ho) rfl hco hgen rfl (codeRec_of X hcd) (hbind _ _ _ _ ?_)
  refine wpAny_newFunctionEnv_cells hk (kindsX hkind _) fun env' he s' x => ?_
  subst he
  refine ⟨T.nolimit.keeps x.toInCall.keep, codeAny_func ?_⟩
  obtain ⟨h₁, tk, rfl, _⟩ := x.done
  have hk₁ := x.toInCall.keep
  obtain ⟨cells, NC, Y⟩ := Cl.news (h₀ := s.heap) (Nat.le_refl _) fun n c hm => ⟨x.cell n c (lookup_of_mem_nodup (cellsFrom_names scope.names 0 (s.heap.objs.size + 1) [] [] rfl ▸ hnd) hm), x.above n c hm⟩
  exact wpAny_mono (h s.heap.objs.size h₁ tk cells ⟨x.toInCall.ns, hk₁, Nat.le_refl _⟩ NC Y) (fun _ _ x => x) (fun _ _ x => x.elim)
end
def colN (c : Col) (i : Nat) : Int := if i = 0 then c.1 else if i = 1 then c.2.1 else c.2.2
theorem col_nth {c : Col} {t1 t2 t3 : Tok} {i : Nat} {v : Value} (e : (#[Value.int c.1 t1, Value.int c.2.1 t2, Value.int c.2.2 t3] : Array Value)[i]? = some v) : ∃ t, v = .int (colN c i) t := by
  match i, e with
  | 0, e => exact ⟨t1, by simpa [colN] using e.symm⟩
  | 1, e => exact ⟨t2, by simpa [colN] using e.symm⟩
  | 2, e => exact ⟨t3, by simpa [colN] using e.symm⟩
  | n + 3, e => simp at e
theorem colN_le {c : Col} {i : Nat} (h1 : 0 ≤ c.1 ∧ c.1 ≤ 4096) (h2 : 0 ≤ c.2.1 ∧ c.2.1 ≤ 4096) (h3 : 0 ≤ c.2.2 ∧ c.2.2 ≤ 4096) : 0 ≤ colN c i ∧ colN c i ≤ 4096 := by
  unfold colN; split
  · exact h1
  · split
    · exact h2
    · exact h3
theorem mul_okR {a b : Int} (h : 0 ≤ b ∧ b ≤ 4096) : IntMulOk a b := IntMulOk.of_right (intBits_le_64 (by omega) (by omega))
theorem vs3 {vs : List Value} {g : Nat → Int} (hl : vs.length = 3) (h : ∀ (i : Nat) y, vs[i]? = some y → ∃ t, y = Value.int (g i) t) : ∃ t0 t1 t2, vs = [Value.int (g 0) t0, Value.int (g 1) t1, Value.int (g 2) t2] := by
  match vs, hl, h with
  | [a, b, c], _, h =>
    obtain ⟨t0, e0⟩ := h 0 a rfl
    obtain ⟨t1, e1⟩ := h 1 b rfl
    obtain ⟨t2, e2⟩ := h 2 c rfl
    exact ⟨t0, t1, t2, by rw [e0, e1, e2]⟩
theorem kept_new {h₀ h h' : Heap} {L D : Addr} {m : Str → Option Value} {news : List (Addr × Obj)} {o : Obj} (F : Fr h₀ L h m) (N : News h₀ L h news) (k : Kept h h') (hD : h.get? D = none) (e : h'.get? D = some o) : Fr h₀ L h' m ∧ News h₀ L h' ((D, o) :: news) := by
  refine ⟨F.grownK k, fun p hp => ?_⟩
  rcases List.mem_cons.mp hp with rfl | hp
  · refine ⟨e, fun q => ?_, ?_⟩
    · obtain ⟨oL, _, _, hL, _⟩ := F.ns
      dsimp only at q
      rw [q, hL] at hD; cases hD
    · cases q : h₀.get? D with
      | none => rfl
      | some o' => have := F.keep _ _ q; rw [hD] at this; cases this
  · exact N.grown k p hp
section
variable {prog : Program} {w : World} {A : Around} {s : Shared} {E : Value → Shared → Prop}
theorem elt_laid {scope : Scope} {cl : List (Str × Addr)} {C c1 c2 c3 : Addr} {env : Env} {m : Str → Option Value} {p1 p2 p3 p4 p5 p6 p7 p8 p9 : Pos} {wv tv ov a b : Int} {t1 t2 t3 ta tb : Tok}
    (hk : scope.kind = .function) (k1 : (compEnvC scope cl C env).kindOf (Str.ofString "white") = some .cell) (k2 : (compEnvC scope cl C env).kindOf (Str.ofString "times") = some .cell) (k3 : (compEnvC scope cl C env).kindOf (Str.ofString "other") = some .cell)
    (k4 : (compEnvC scope cl C env).kindOf (Str.ofString "one") = some .local) (k5 : (compEnvC scope cl C env).kindOf (Str.ofString "two") = some .local)
    (l1 : cl.lookup (Str.ofString "white") = some c1) (l2 : cl.lookup (Str.ofString "times") = some c2) (l3 : cl.lookup (Str.ofString "other") = some c3)
    (i1 : s.heap.IsCell c1 (some (.int wv t1))) (i2 : s.heap.IsCell c2 (some (.int tv t2))) (i3 : s.heap.IsCell c3 (some (.int ov t3)))
    (hn : s.heap.Ns C m) (n1 : m (Str.ofString "one") = some (.int a ta)) (n2 : m (Str.ofString "two") = some (.int b tb)) (ba : 0 ≤ a ∧ a ≤ 4096) (bb : 0 ≤ b ∧ b ≤ 4096) :
    wpAny (model prog w) A (eval (((PySem.Expr.Name (Str.ofString "white") p1).BinOp .Add ((PySem.Expr.Name (Str.ofString "times") p2).BinOp .Mult (PySem.Expr.Name (Str.ofString "one") p3) p4) p5).BinOp .Add ((PySem.Expr.Name (Str.ofString "other") p6).BinOp .Mult (PySem.Expr.Name (Str.ofString "two") p7) p8) p9) (compEnvC scope cl C env))
      (fun y s₃ => (∃ t, y = .int (wv + tv * a + ov * b) t) ∧ Keeps s s₃) E s := by
  refine wpAny_BinOp (wpAny_BinOp ?_)
  refine wpAny_Name (wpAny_loadName_cell hk k1 l1 i1 ?_)
  refine wpAny_BinOp (wpAny_Name (wpAny_loadName_cell hk k2 l2 i2 ?_))
  refine wpAny_Name (wpAny_loadName_local hk k4 hn n1 ?_)
  refine PyProof.Rows.mul_int ?_ (mul_okR ba)
  refine PyProof.Rows.add_int ?_
  refine wpAny_BinOp (wpAny_Name (wpAny_loadName_cell hk k3 l3 i3 ?_))
  refine wpAny_Name (wpAny_loadName_local hk k5 hn n2 ?_)
  refine PyProof.Rows.mul_int ?_ (mul_okR bb)
  refine PyProof.Rows.add_int ?_
  exact ⟨⟨_, rfl⟩, _, _, rfl, fun _ _ e => e⟩
end
def Fit (ar ag ab : Int) (c₁ c₂ : Col) (W : Int) (Lf Rt : Nat) (cols : List Col) : Prop :=
  [W + cross (ar, ag, ab) c₂ * c₁.1 + cross c₁ (ar, ag, ab) * c₂.1, W + cross (ar, ag, ab) c₂ * c₁.2.1 + cross c₁ (ar, ag, ab) * c₂.2.1, W + cross (ar, ag, ab) c₂ * c₁.2.2 + cross c₁ (ar, ag, ab) * c₂.2.2] = [ar, ag, ab] ∧
  (ar = ag ∧ ag = ab → Lf = 0 ∧ Rt = 1 ∧ ∀ (j : Nat) (c : Col), (cols.drop 1)[j]? = some c → (Float64.cmp (hueF (q8 ar) (q8 ag) (q8 ab)) (hueK c) == some Ordering.lt) = decide (0 ≤ j)) ∧
  (¬ (ar = ag ∧ ag = ab) → 1 ≤ cross (ar, ag, ab) c₂ ∧ 0 ≤ cross c₁ (ar, ag, ab) ∧ (cross c₁ (ar, ag, ab) = 0 → (Lf : Int) = (Rt : Int) - 1) ∧ (cross c₁ (ar, ag, ab) ≠ 0 → Lf = Rt))
section
variable {prog : Program} {w : World} {A : Around} {s : Shared} {E : Value → Shared → Prop} {Q : Value → Shared → Prop}
theorem ne3 {a b : Addr} {x y z x' y' z' : Int} {t1 t2 t3 t1' t2' t3' : Tok} (hl : s.heap.IsList a #[.int x t1, .int y t2, .int z t3]) (hl' : s.heap.IsList b #[.int x' t1', .int y' t2', .int z' t3']) (hu : A.units + 64 < cLine) (e : [x, y, z] = [x', y', z'])
    (h : Q (.bool false) s) : wpAny (model prog w) A (compareOp .NotEq (.ref a) (.ref b)) Q E s :=
  ne_intsK (vs := [.int x t1, .int y t2, .int z t3]) (us := [.int x' t1', .int y' t2', .int z' t3']) (ns := [x, y, z]) (ms := [x', y', z']) hl (.cons _ _ (.cons _ _ (.cons _ _ .nil))) hl' (.cons _ _ (.cons _ _ (.cons _ _ .nil))) hu (by rw [decide_eq_true e]; exact h)
end
theorem slice_from1 {items : List Value} (h : 1 ≤ items.length) : (slicePick items.toArray (some 1) none none).toList = items.drop 1 := by
  have := slicePick_from items.toArray 1 (by simpa using h)
  rw [show ((1 : Nat) : Int) = 1 from rfl] at this
  rw [this]
theorem ColsAt.drop1 {h : Heap} {items : List Value} {cols : List Col} (x : ColsAt h items cols) : ColsAt h (items.drop 1) (cols.drop 1) :=
  ⟨by simp [x.1], fun i v c a b => x.2 (i + 1) v c (by simpa using a) (by simpa using b)⟩
theorem RowAt.cols {h : Heap} {l : Addr} {items : List Value} {cols : List Col} (x : RowAt h l items cols) : ColsAt h items cols := ⟨x.2.1, x.2.2⟩
section
variable {ar ag ab W M : Int} {c₁ c₂ : Col} {Lf Rt : Nat} {cols : List Col}
theorem grey_yes (b : ar ≤ M ∧ ag ≤ M ∧ ab ≤ M) (e : M = W) (hW : W ≤ ar ∧ W ≤ ag ∧ W ≤ ab) : ar = ag ∧ ag = ab := by omega
theorem grey_no (a : M = ar ∨ M = ag ∨ M = ab) (b : W = ar ∨ W = ag ∨ W = ab) (e : M ≠ W) : ¬ (ar = ag ∧ ag = ab) := by omega
theorem end_t (fit : Fit ar ag ab c₁ c₂ W Lf Rt cols) (g : ¬ (ar = ag ∧ ag = ab)) (h : cross (ar, ag, ab) c₂ < 1) : False := by have := (fit.2.2 g).1; omega
theorem end_o (fit : Fit ar ag ab c₁ c₂ W Lf Rt cols) (g : ¬ (ar = ag ∧ ag = ab)) (h : cross c₁ (ar, ag, ab) < 0) : False := by have := (fit.2.2 g).2.1; omega
theorem end_1 (fit : Fit ar ag ab c₁ c₂ W Lf Rt cols) (g : ¬ (ar = ag ∧ ag = ab)) (h : cross c₁ (ar, ag, ab) = 0) : ((Lf : Int) == (Rt : Int) - 1) = true := by rw [(fit.2.2 g).2.2.1 h]; simp
theorem end_2 (fit : Fit ar ag ab c₁ c₂ W Lf Rt cols) (g : ¬ (ar = ag ∧ ag = ab)) (h : cross c₁ (ar, ag, ab) ≠ 0) : ((Lf : Int) == (Rt : Int)) = true := by rw [(fit.2.2 g).2.2.2 h]; simp
end
theorem bool_ret {Q : Value → Shared → Prop} {s : Shared} {b : Bool} (h : Q (.bool true) s) (e : b = true) : Q (.bool b) s := by rw [e]; exact h
theorem cell_of {h₀ h h' : Heap} {L c : Addr} {o : Obj} {v : Value} {news : List (Addr × Obj)} (N : News h₀ L h news) (hm : (c, o) ∈ news) (hd : o.data = .cell (some v)) (k : Kept h h') : h'.IsCell c (some v) := ⟨o, k _ _ (N _ hm).1, hd⟩
theorem idx_near0 {R : Nat} (h : 1 ≤ R) : (0 : Int) ≤ (R : Int) - 1 := by omega
theorem idx_near1 {R n : Nat} (h : 1 ≤ R) (h2 : R ≤ n) : (R : Int) - 1 < (n : Int) := by omega
theorem idx_far0 {R n : Nat} (h : 1 ≤ R) (h2 : R ≤ n) : (0 : Int) ≤ (R : Int).fmod (n : Int) := Int.fmod_nonneg (by omega) (by omega)
theorem idx_far1 {R n : Nat} (h : 1 ≤ R) (h2 : R ≤ n) : (R : Int).fmod (n : Int) < (n : Int) := Int.fmod_lt_of_pos _ (by omega)
local macro_rules | `(tactic| k_room) => `(tactic| ktr_room)
local macro_rules | `(tactic| k_units) => `(tactic| ktr_units)
local macro_rules | `(tactic| kun_lst) => `(tactic| exact lift_list (by k_asm) (by k_asm))
local macro_rules | `(tactic| walk_at "binaryOp Div int float") => `(tactic| (k_dflt (refine' div_8 ?a ?b ?c ?_; (case a => exact rfl); (case b => omega); (case c => omega)); (try dsimp only)))
local macro_rules | `(tactic| walk_at "call builtin:len") => `(tactic| ((with_reducible show wpAny _ _ (call (Value.builtin "len") [Value.ref _]) _ _ _); k_dflt (refine' row_len ?F ?R ?hh ?_; (case F => k_asm); (case R => k_asm); (case hh => k_asm)); (try dsimp only)))
local macro_rules | `(tactic| walk_at "call ref") => `(tactic| ((with_reducible show wpAny _ _ (call (Value.ref 57) _) _ _ _); k_dflt (refine' hls_ctr _ _ _ _ _ _ _ _ _ _ _ _ _ _ ?X ?T ?h1 ?h2 ?h3 ?hz ?_; (case X => k_in); (case T => exact lift_top (by k_asm) (by k_asm)); (case h1 => exact rfl); (case h2 => ktr_room); (case h3 => ktr_units); (case hz => k_asm)); intro a' t' x' y' h' tk' k' i'; (obtain ⟨F', N'⟩ := kept_use (by k_asm) (by k_asm) k'); (try k_sweep); (try dsimp only)))
local macro_rules | `(tactic| walk_at "call ref") => `(tactic| ((with_reducible show wpAny _ _ (call (Value.ref 32) _ _) _ _ _); k_dflt (refine' bisR2 ?X ?T ?h1 ?h2 ?h3 ?hr ?hg ?hl ?hR ?hc ?_; (case X => k_in); (case T => exact lift_top (by k_asm) (by k_asm)); (case h1 => exact rfl); (case h2 => ktr_room); (case h3 => ktr_units); (case hr => first | exact rowAt_lift (by k_asm) (by k_asm) | exact rowAt_of (by k_asm) (by k_asm) (by k_mem) (by k_asm)); (case hg => k_asm); (case hl => k_asm); (case hc => k_asm); (case hR => k_asm)); intro t' h' tk' k'; (obtain ⟨F', N'⟩ := kept_use (by k_asm) (by k_asm) k'); (try k_sweep); (try dsimp only)))
local macro_rules | `(tactic| walk_at "call ref") => `(tactic| ((with_reducible show wpAny _ _ (call (Value.ref 50) _ _) _ _ _); k_dflt (refine' bisL2 ?X ?T ?h1 ?h2 ?h3 ?hr ?hg ?hl ?hR ?hc ?_; (case X => k_in); (case T => exact lift_top (by k_asm) (by k_asm)); (case h1 => exact rfl); (case h2 => ktr_room); (case h3 => ktr_units); (case hr => exact rowAt_lift (by k_asm) (by k_asm)); (case hg => k_asm); (case hl => k_asm); (case hc => k_asm); (case hR => k_asm)); intro t' h' tk' k'; (obtain ⟨F', N'⟩ := kept_use (by k_asm) (by k_asm) k'); (try k_sweep); (try dsimp only)))
local macro_rules | `(tactic| walk_at "subscriptTail") => `(tactic| ((with_reducible show wpAny _ _ (subscriptTail _ _ (Value.ref _) (Value.int (_ - 1) _)) _ _ _); k_dflt (refine' row_item ?F ?R ?h0 ?h1 ?hh ?_ ?hs; (case F => k_asm); (case R => k_asm); (case h0 => exact idx_near0 (by k_asm)); (case h1 => exact idx_near1 (by k_asm) (by k_asm)); (case hh => k_asm); (case hs => with_unfolding_all rfl)); intro c' a' t1' t2' t3' ec' il'; (obtain ⟨g1', g2', g3', g4'⟩ := hgood_of (by assumption) ec')))
local macro_rules | `(tactic| walk_at "subscriptTail") => `(tactic| ((with_reducible show wpAny _ _ (subscriptTail _ _ (Value.ref _) (Value.int (Int.fmod _ _) _)) _ _ _); k_dflt (refine' row_item ?F ?R ?h0 ?h1 ?hh ?_ ?hs; (case F => k_asm); (case R => k_asm); (case h0 => exact idx_far0 (by k_asm) (by k_asm)); (case h1 => exact idx_far1 (by k_asm) (by k_asm)); (case hh => k_asm); (case hs => with_unfolding_all rfl)); intro c' a' t1' t2' t3' ec' il'; (obtain ⟨g1', g2', g3', g4'⟩ := hgood_of (by assumption) ec')))
local macro_rules | `(tactic| walk_at "call ref") => `(tactic| ((with_reducible show wpAny _ _ (call (Value.ref 78) _) _ _ _); k_dflt (refine' cross_ctr _ _ _ _ _ _ _ _ _ _ _ _ _ _ _ _ _ _ _ _ _ _ ?X ?T ?h1 ?h2 ?h3 ?hl ?hl' ?g1 ?g2 ?g3 ?_; (case X => k_in); (case T => exact lift_top (by k_asm) (by k_asm)); (case h1 => exact rfl); (case h2 => ktr_room); (case h3 => ktr_units); (case hl => exact lift_list (by k_asm) (by k_asm)); (case hl' => exact lift_list (by k_asm) (by k_asm)); (case g1 => first | k_asm | omega); (case g2 => first | k_asm | omega); (case g3 => first | k_asm | omega)); intro t' h' tk' k'; (obtain ⟨F', N'⟩ := kept_use (by k_asm) (by k_asm) k'); (try k_sweep); (try dsimp only)))
local macro_rules | `(tactic| walk_at "call type:zip") => `(tactic| (k_dflt (refine' zip_call ?a ?b ?c; (case a => exact lift_list (by k_asm) (by k_asm)); (case b => exact lift_list (by k_asm) (by k_asm)); (case c => exact ⟨_, rfl⟩))))
local macro_rules | `(tactic| walk_at "subscriptTail Name Slice ref ref") => `(tactic| (refine StopAt.go ?_))
local macro_rules | `(tactic| walk_at "compareOp NotEq ref ref") => `(tactic| (refine StopAt.go ?_))
local macro_rules | `(tactic| walk_at "eval ListComp") => `(tactic| (refine StopAt.go ?_))

set_option maxRecDepth 100000 in
set_option maxHeartbeats 3000000 in
theorem laid_ctr : ∀ (w : World) (mean : ExcName → Option Value) (mg mb : Str → Option Value) (A : Around) (s : Shared) (Q E : Value → Shared → Prop)
   (l la : Addr) (items : List Value) (cols : List Col) (ar ag ab : Int) (ta tb tc : Tok) (Lf Rt : Nat)
   (_ : (hd.heap_39 w.params).In s.heap) (_ : Top hd.view_39 LO mean mg mb s.heap) (_ : A.handled = none) (_ : A.depth + 24 < recursionLimit) (_ : A.units + 240 < cLine)
   (_ : RowAt s.heap l items cols) (_ : ∀ c ∈ cols, GoodCol c) (_ : cols.length < 100)
   (_ : s.heap.IsList la #[.int ar ta, .int ag tb, .int ab tc]) (_ : 0 ≤ ar ∧ ar ≤ 8) (_ : 0 ≤ ag ∧ ag ≤ 8) (_ : 0 ≤ ab ∧ ab ≤ 8) (_ : HlsOk (q8 ar) (q8 ag) (q8 ab))
   (_ : Lf ≤ cols.length) (_ : 1 ≤ Rt) (_ : Rt ≤ cols.length)
   (_ : ∀ (j : Nat) (c : Col), cols[j]? = some c → (Float64.cmp (hueK c) (hueF (q8 ar) (q8 ag) (q8 ab)) == some Ordering.lt) = decide (j < Lf))
   (_ : ∀ (j : Nat) (c : Col), cols[j]? = some c → (Float64.cmp (hueF (q8 ar) (q8 ag) (q8 ab)) (hueK c) == some Ordering.lt) = decide (Rt ≤ j))
   (_ : ∀ (c₁ c₂ : Col) (W : Int), cols[((Rt : Int) - 1).toNat]? = some c₁ → cols[((Rt : Int).fmod (cols.length : Nat)).toNat]? = some c₂ → (W = ar ∨ W = ag ∨ W = ab) → (W ≤ ar ∧ W ≤ ag ∧ W ≤ ab) → Fit ar ag ab c₁ c₂ W Lf Rt cols)
   (_ : ∀ h' tk', Kept s.heap h' → Q (.bool true) { s with heap := h', toks := tk' }),
   wpAny (model PySem.Challenge.rw_pe0137_01.row.prog w) A (call (.ref 83) [.ref l, .ref la]) Q E s := by
  w_top off
  k_fill
  intro w mean mg mb A s Q E l la items cols ar ag ab ta tb tc Lf Rt X T hA hdp hun hrow hgood hlen hla har hag hab hok hLf hRt1 hRt2 hcL hcR hfit hret
  obtain ⟨ah, dp, fr, gd, un⟩ := A
  dsimp only at hA hdp hun
  subst hA
  refine wpAny_call ?_
  k_dflt (refine' enterC (binds := [(Str.ofString "row", .ref l), (Str.ofString "asked", .ref la)]) ?k1 ?k2 ?k6 ?k7 ?k8 ?k9 ?kB ?kD ?_ ?c2 ?c3 ?c4; (case k1 => k_asm); (case k2 => k_asm); (case k6 => k_is); (case k7 => k_is); (case k8 => ktr_room); (case k9 => exact BindsTo.of_eq rfl); (case kB => exact rfl); (case kD => decide +kernel); (case c2 => exact rfl); (case c3 => exact rfl); (case c4 => exact rfl); k_whole; intro L' h' tk' cells' F' N' Y'; k_cells Y'; (try simp only [List.cons_append, List.nil_append] at N'); (try dsimp only))
  all_goals (try k_fold)
  k_steps
  unfold StopAt
  rename_i c₁ a₁ s1 s2 s3 ec₁ il₁ gn1 gn2 gn3 gn4 hh6 c₂ a₂ u1 u2 u3 ec₂ il₂ gf1 gf2 gf3 gf4 hh5 tk2 tT hh4 tk1' kk1 hh3 oT dT tk1 tO hh2 tkk kk' hh1 oO dO tk0 hh0 W tW tkW hW1 hW2 hhN oW FN NN dW
  have fit := hfit c₁ c₂ W ec₁ ec₂ hW1 hW2
  k_dflt (refine' comp_zip (l1 := a₁) (l2 := a₂) (xs := #[.int c₁.1 s1, .int c₁.2.1 s2, .int c₁.2.2 s3]) (ys := #[.int c₂.1 u1, .int c₂.2.1 u2, .int c₂.2.2 u3]) (fun i y => ∃ t, y = .int (W + cross (ar, ag, ab) c₂ * colN c₁ i + cross c₁ (ar, ag, ab) * colN c₂ i) t) ?hh ?hsz ?hxy ?hclos ?hcell ?hkind ?hnames ?hx ?hx2 ?hxx ?hsrc ?helt ?_ ?hs; (case hh => exact rfl); (case hsz => exact Nat.le_of_ble_eq_true rfl); (case hxy => exact rfl); (case hclos => with_unfolding_all rfl); (case hcell => decide); (case hkind => exact rfl); (case hnames => decide); (case hx => exact rfl); (case hx2 => exact rfl); (case hxx => decide); (case hs => intro _; rfl))
  case hsrc => k_steps
  case helt =>
    intro i v1 v2 C s₂ m₂ E' e1 e2 hn n1 n2 kp
    obtain ⟨ta', rfl⟩ := col_nth e1
    obtain ⟨tb', rfl⟩ := col_nth e2
    exact elt_laid rfl rfl rfl rfl rfl rfl rfl rfl rfl (cell_of NN (by k_mem) dW kp) (cell_of NN (by k_mem) dT kp) (cell_of NN (by k_mem) dO kp) hn n1 n2 (colN_le gn1 gn2 gn3) (colN_le gf1 gf2 gf3)
  intro D hD' tkD vs nD hD hl hlen' hG kp
  obtain ⟨v0, v1, v2, rfl⟩ := vs3 hlen' hG
  obtain ⟨F8, N8⟩ := kept_new FN NN kp hD hl
  clear FN NN
  have hlD : Heap.IsList hD' D #[.int (W + cross (ar, ag, ab) c₂ * c₁.1 + cross c₁ (ar, ag, ab) * c₂.1) v0, .int (W + cross (ar, ag, ab) c₂ * c₁.2.1 + cross c₁ (ar, ag, ab) * c₂.2.1) v1, .int (W + cross (ar, ag, ab) c₂ * c₁.2.2 + cross c₁ (ar, ag, ab) * c₂.2.2) v2] := ⟨_, hl, rfl, _, rfl⟩
  dsimp only
  k_steps
  unfold StopAt
  k_dflt (refine' ne3 ?a ?b ?u ?e ?_; (case a => exact hlD); (case b => exact lift_list (by k_asm) (by k_asm)); (case u => ktr_units); (case e => exact fit.1))
  k_steps
  · unfold StopAt
    obtain ⟨e1, e2, e3⟩ := fit.2.1 (grey_yes (by assumption) (by assumption) hW2)
    have hc2 := hrow.cols.drop1
    have hg2 : ∀ c ∈ cols.drop 1, GoodCol c := fun c hc => hgood c (List.mem_of_mem_drop hc)
    have hl2 : (cols.drop 1).length < 100 := by rw [List.length_drop]; omega
    have hz2 : 0 ≤ (cols.drop 1).length := Nat.zero_le _
    k_dflt (refine' kmk_slice_lit (zs := items.drop 1) ?zF ?zN ?zl ?zp ?zq ?ze ?_ ?zs ?zt ?zz; (case zF => k_asm); (case zN => k_asm); (case zl => exact lift_list (by k_asm) hrow.1); (case zp => kmk_part); (case zq => kmk_part); (case ze => exact slice_from1 (by have := hrow.2.1; omega)); (case zs => with_unfolding_all rfl); (case zt => kmk_pure); (case zz => exact (by have := hrow.2.1; rw [List.size_toArray]; simp only [sizeLine]; omega)))
    intro D2 h2 F2 N2 l2
    k_sweep
    dsimp only
    k_steps
    all_goals exact hret _ _ (Fr.keep (by assumption))
  · have := (fit.2.1 (grey_yes (by assumption) (by assumption) hW2)).2.1
    exfalso; omega
  · have := (fit.2.1 (grey_yes (by assumption) (by assumption) hW2)).1
    exfalso; omega
  · exact (end_t fit (grey_no (by assumption) hW1 (by assumption)) (by assumption)).elim
  · exact (end_o fit (grey_no (by assumption) hW1 (by assumption)) (by assumption)).elim
  · exact bool_ret (hret _ _ (Fr.keep (by assumption))) (end_1 fit (grey_no (by assumption) hW1 (by assumption)) (by assumption))
  · exact bool_ret (hret _ _ (Fr.keep (by assumption))) (end_2 fit (grey_no (by assumption) hW1 (by assumption)) (by assumption))
end Mine
end PartMG
section PartMQ
open PySem PySem.Float64
namespace Mine
/-- a double that is j times 2^u (in units of 2^-1074), its sign plus -/
def Ex (x : UInt64) (j u : Nat) : Prop := ∃ t, x = pack false t ∧ t < infMag ∧ V t = j * 2 ^ u
theorem rep {j e : Nat} (hj : j < 2 ^ 53) (he : 52 ≤ e) : ∃ t, V t = j * 2 ^ e := by
  by_cases h0 : j = 0
  · exact ⟨0, by rw [V_zero, h0, Nat.zero_mul]⟩
  · have hl : j.log2 < 53 := (Nat.log2_lt h0).mpr hj
    have h1 : 2 ^ j.log2 ≤ j := Nat.log2_self_le h0
    have h2 : j < 2 ^ (j.log2 + 1) := Nat.lt_log2_self
    refine ⟨(e - (52 - j.log2)) * 2 ^ 52 + j * 2 ^ (52 - j.log2), ?_⟩
    have e1 : 2 ^ j.log2 * 2 ^ (52 - j.log2) = 2 ^ 52 := by rw [← Nat.pow_add]; congr 1; omega
    have e2 : 2 ^ (j.log2 + 1) * 2 ^ (52 - j.log2) = 2 ^ 53 := by rw [← Nat.pow_add]; congr 1; omega
    have q1 : 2 ^ 52 ≤ j * 2 ^ (52 - j.log2) := by rw [← e1]; exact Nat.mul_le_mul_right _ h1
    have q2 : j * 2 ^ (52 - j.log2) ≤ 2 ^ 53 := by rw [← e2]; exact Nat.mul_le_mul_right _ (Nat.le_of_lt h2)
    rw [V_at q2 (.inl q1), Nat.mul_assoc, ← Nat.pow_add]
    congr 2
    omega
theorem dist_zero {a b : Nat} (h : dist a b ≤ 0) : a = b := by unfold dist at h; omega
theorem dist_self (a : Nat) : dist a a = 0 := by unfold dist; omega
theorem big {e : Nat} (h : e ≤ 1100) : 2 * (2 ^ 53 * 2 ^ e) ≤ (2 ^ 54 - 1) * 2 ^ 2045 := by
  have h1 : 2 ^ e ≤ 2 ^ 1100 := Nat.pow_le_pow_right (by decide) h
  have h2 : 2 * (2 ^ 53 * 2 ^ 1100) ≤ (2 ^ 54 - 1) * 2 ^ 2045 := by decide +kernel
  exact Nat.le_trans (Nat.mul_le_mul_left _ (Nat.mul_le_mul_left _ h1)) h2
theorem right_exact {r : UInt64} {neg : Bool} {W D j e : Nat} (R : Right r neg W D) (hD : 0 < D) (hW : W = D * (j * 2 ^ e)) (hj : j < 2 ^ 53) (he : 52 ≤ e) (he2 : e ≤ 1100) : ∃ t, r = pack neg t ∧ t < infMag ∧ V t = j * 2 ^ e := by
  obtain ⟨t, hr, hle, hinf, hn⟩ := R
  have ht : t < infMag := by
    refine Nat.lt_of_le_of_ne hle fun q => ?_
    have h1 := hinf.mp q
    have h2 := big he2
    have h3 : 2 * (D * (j * 2 ^ e)) < D * (2 * (2 ^ 53 * 2 ^ e)) := by
      have : j * 2 ^ e < 2 ^ 53 * 2 ^ e := Nat.mul_lt_mul_of_pos_right hj (Nat.two_pow_pos _)
      have : D * (j * 2 ^ e) < D * (2 ^ 53 * 2 ^ e) := Nat.mul_lt_mul_of_pos_left this hD
      have e3 : D * (2 * (2 ^ 53 * 2 ^ e)) = 2 * (D * (2 ^ 53 * 2 ^ e)) := by ac_rfl
      omega
    have h4 : D * (2 * (2 ^ 53 * 2 ^ e)) ≤ D * ((2 ^ 54 - 1) * 2 ^ 2045) := Nat.mul_le_mul_left _ h2
    rw [hW] at h1
    exact absurd (Nat.lt_of_lt_of_le h3 h4) (Nat.not_lt.mpr h1)
  obtain ⟨t', ht'⟩ := rep hj he
  have h1 := (hn ht t').1
  rw [ht', ← hW, dist_self] at h1
  have h2 := dist_zero h1
  rw [hW] at h2
  exact ⟨t, hr, ht, (Nat.eq_of_mul_eq_mul_left hD h2).symm⟩
@[irreducible] def eps : Nat := 2 ^ 1024
theorem eps_eq : eps = 2 ^ 1024 := by unfold eps; rfl
theorem eps_pos : 0 < eps := by rw [eps_eq]; exact Nat.two_pow_pos _
theorem one_eq : (2 : Nat) ^ 1074 = 2 ^ 50 * eps := by rw [eps_eq, ← Nat.pow_add]
theorem right_err {r : UInt64} {neg : Bool} {W D : Nat} (R : Right r neg W D) (hD : 0 < D) (hW : W < 2 ^ 53 * eps * D) : ∃ t, r = pack neg t ∧ t < infMag ∧ dist W (D * V t) ≤ D * eps := by
  obtain ⟨t, hr, hle, hinf, hn⟩ := R
  have hb := big (e := 1024) (by decide)
  rw [← eps_eq] at hb
  have hrep : ∀ {j : Nat}, j < 2 ^ 53 → ∃ t, V t = j * eps := fun hj => by rw [eps_eq]; exact rep hj (by decide)
  have hep := eps_pos
  generalize eps = E at *
  have ht : t < infMag := by
    refine Nat.lt_of_le_of_ne hle fun q => ?_
    have h1 := hinf.mp q
    have h4 : D * (2 * (2 ^ 53 * E)) ≤ D * ((2 ^ 54 - 1) * 2 ^ 2045) := Nat.mul_le_mul_left _ hb
    generalize (2 ^ 54 - 1) * 2 ^ 2045 = Z at *
    have e3 : D * (2 * (2 ^ 53 * E)) = 2 * (2 ^ 53 * E * D) := by
      generalize (2 : Nat) ^ 53 = A
      ac_rfl
    rw [e3] at h4
    generalize 2 ^ 53 * E * D = a at *
    generalize D * Z = b at *
    omega
  refine ⟨t, hr, ht, ?_⟩
  have hpos : 0 < D * E := Nat.mul_pos hD hep
  have hj : W / (D * E) < 2 ^ 53 := by
    rw [Nat.div_lt_iff_lt_mul hpos]
    have e : 2 ^ 53 * (D * E) = 2 ^ 53 * E * D := by
      generalize (2 : Nat) ^ 53 = A
      ac_rfl
    rw [e]; exact hW
  obtain ⟨t', ht'⟩ := hrep hj
  refine Nat.le_trans (hn ht t').1 ?_
  rw [ht']
  have e1 : D * (W / (D * E) * E) = D * E * (W / (D * E)) := by
    generalize W / (D * E) = A
    ac_rfl
  rw [e1]
  generalize D * E = c at *
  have h1 := Nat.div_add_mod W c
  have h2 := Nat.mod_lt W hpos
  unfold dist
  omega
theorem dist_scale (a b c : Nat) : dist (a * c) (b * c) = dist a b * c := by
  rw [Nat.mul_comm a, Nat.mul_comm b, dist_mul, Nat.mul_comm]
/-- rounding is one-valued in the ratio -/
theorem right_unique {r r' : UInt64} {neg : Bool} {W D W' D' : Nat} (R : Right r neg W D) (R' : Right r' neg W' D') (hD : 0 < D) (hD' : 0 < D') (e : W * D' = W' * D) (h : W < 2 ^ 53 * eps * D) (h' : W' < 2 ^ 53 * eps * D') : r = r' := by
  have ht : ∀ {r W D}, Right r neg W D → 0 < D → W < 2 ^ 53 * eps * D → ∃ t, r = pack neg t ∧ ∀ t', dist W (D * V t) ≤ dist W (D * V t') ∧ (V t' ≠ V t → dist W (D * V t) = dist W (D * V t') → t % 2 = 0) := by
    intro r W D R hD h
    obtain ⟨t, hr, hle, hinf, hn⟩ := R
    obtain ⟨s, hs, hsl, _⟩ := right_err ⟨t, hr, hle, hinf, hn⟩ hD h
    have q : t = s := by
      have := hr.symm.trans hs
      have h1 := pack_toNat neg (t := t) (by have : infMag = 2047 * 2 ^ 52 := rfl; omega)
      have h2 := pack_toNat neg (t := s) (by have : infMag = 2047 * 2 ^ 52 := rfl; omega)
      rw [this, h2] at h1
      omega
    exact ⟨t, hr, hn (q ▸ hsl)⟩
  obtain ⟨t, hr, hn⟩ := ht R hD h
  obtain ⟨t', hr', hn'⟩ := ht R' hD' h'
  clear ht R R' h h'
  have go : ∀ (t t' W D W' D' : Nat), 0 < D → 0 < D' → W * D' = W' * D → (∀ u, dist W (D * V t) ≤ dist W (D * V u) ∧ (V u ≠ V t → dist W (D * V t) = dist W (D * V u) → t % 2 = 0)) →
      (∀ u, dist W' (D' * V t') ≤ dist W' (D' * V u) ∧ (V u ≠ V t' → dist W' (D' * V t') = dist W' (D' * V u) → t' % 2 = 0)) → t < t' → False := by
    intro t t' W D W' D' hD hD' e hn hn' hlt
    have sc : ∀ u, dist W (D * V u) * D' = dist W' (D' * V u) * D := fun u => by
      rw [← dist_scale, ← dist_scale, e]
      congr 1
      ac_rfl
    have v1 := V_lt hlt
    have k1 := (hn t').1
    have k2 := (hn' t).1
    have k3 : dist W (D * V t) = dist W (D * V t') := by
      refine Nat.le_antisymm k1 (Nat.le_of_mul_le_mul_right (c := D') ?_ hD')
      rw [sc, sc]
      exact Nat.mul_le_mul_right _ k2
    have k4 : dist W' (D' * V t') = dist W' (D' * V t) := by
      refine Nat.le_antisymm k2 (Nat.le_of_mul_le_mul_right (c := D) ?_ hD)
      rw [← sc, ← sc, k3]
      exact Nat.le_refl _
    have p1 := (hn t').2 (by omega) k3
    have p2 := (hn' t).2 (by omega) k4
    have hlt2 : t + 1 < t' := by omega
    have v2 := V_succ t
    have v3 := V_lt hlt2
    have k5 := (hn (t + 1)).1
    have m1 : D * V t < D * V (t + 1) := Nat.mul_lt_mul_of_pos_left v2 hD
    have m2 : D * V (t + 1) < D * V t' := Nat.mul_lt_mul_of_pos_left v3 hD
    unfold dist at k3 k5
    omega
  rw [hr, hr']
  congr 1
  rcases Nat.lt_trichotomy t t' with q | q | q
  · exact (go t t' W D W' D' hD hD' e hn hn' q).elim
  · exact q
  · exact (go t' t W' D' W D hD' hD e.symm hn' hn q).elim
end Mine
end PartMQ
section PartMR
open PySem PySem.Float64
namespace Mine
def FinF (x : UInt64) : Prop := ∃ a m e, decode x = .fin a m e
section
variable {x y x' y' : UInt64} {i j i' j' u u' : Nat}
theorem pack_fin {neg : Bool} {t : Nat} (h : t < infMag) : ∃ m e, decode (pack neg t) = .fin neg m e := by
  obtain ⟨m, e, hd, _⟩ := decode_pack neg h
  exact ⟨m, e, hd⟩
theorem Ex.fin (h : Ex x j u) : ∃ m e, decode x = .fin false m e := by
  obtain ⟨t, rfl, ht, _⟩ := h
  exact pack_fin ht
theorem Ex.finF (h : Ex x j u) : FinF x := by obtain ⟨m, e, hd⟩ := h.fin; exact ⟨_, _, _, hd⟩
theorem Ex.val (h : Ex x j u) : val x = ((j * 2 ^ u : Nat) : Int) := by
  obtain ⟨t, rfl, ht, hv⟩ := h
  rw [val_pack false ht, hv]
  rfl
theorem Ex.zero (h : Ex x j u) (hj : j ≠ 0) : isZero x = false := by
  obtain ⟨m, e, hd⟩ := h.fin
  have hv := h.val
  rw [val_eq hd] at hv
  unfold isZero
  rw [hd]
  cases m with
  | zero =>
    exfalso
    rw [Nat.zero_mul, show sgn false 0 = 0 from rfl] at hv
    have := Nat.mul_pos (Nat.pos_of_ne_zero hj) (Nat.two_pow_pos u)
    omega
  | succ m => rfl
theorem Ex.sub (hx : Ex x i u) (hy : Ex y j u) (hij : j ≤ i) (hi : i < 2 ^ 53) (h1 : 52 ≤ u) (h2 : u ≤ 1100) : Ex (Float64.sub x y) (i - j) u := by
  obtain ⟨m, e, dx⟩ := hx.fin
  obtain ⟨k, f, dy⟩ := hy.fin
  obtain ⟨s0, s1⟩ := sub_right dx dy
  rw [hx.val, hy.val] at s0 s1
  by_cases h : i = j
  · subst h
    rw [s0 (by omega)]
    refine ⟨0, rfl, by decide +kernel, ?_⟩
    rw [V_zero, Nat.sub_self, Nat.zero_mul]
  · have hlt : j * 2 ^ u < i * 2 ^ u := Nat.mul_lt_mul_of_pos_right (by omega) (Nat.two_pow_pos u)
    have hR := s1 (by omega)
    rw [show decide (((i * 2 ^ u : Nat) : Int) - ((j * 2 ^ u : Nat) : Int) < 0) = false from decide_eq_false (by omega)] at hR
    exact right_exact hR (by decide) (by rw [Nat.sub_mul]; omega) (by omega) h1 h2
theorem Ex.add (hx : Ex x i u) (hy : Ex y j u) (hij : i + j < 2 ^ 53) (h1 : 52 ≤ u) (h2 : u ≤ 1100) : Ex (Float64.add x y) (i + j) u := by
  obtain ⟨m, e, dx⟩ := hx.fin
  obtain ⟨k, f, dy⟩ := hy.fin
  obtain ⟨s0, s1⟩ := add_right dx dy
  rw [hx.val, hy.val] at s0 s1
  by_cases h : i + j = 0
  · have e1 : i = 0 := by omega
    have e2 : j = 0 := by omega
    subst e1 e2
    rw [s0 (by simp)]
    refine ⟨0, rfl, by decide +kernel, ?_⟩
    rw [V_zero, Nat.zero_add, Nat.zero_mul]
  · have hlt : 0 < (i + j) * 2 ^ u := Nat.mul_pos (by omega) (Nat.two_pow_pos u)
    have e1 : ((i * 2 ^ u : Nat) : Int) + ((j * 2 ^ u : Nat) : Int) = (((i + j) * 2 ^ u : Nat) : Int) := by rw [Nat.add_mul]; omega
    rw [e1] at s1
    have hR := s1 (by omega)
    rw [show decide ((((i + j) * 2 ^ u : Nat) : Int) < 0) = false from decide_eq_false (by omega)] at hR
    exact right_exact hR (by decide) (by omega) hij h1 h2
theorem Ex.cmp (hx : Ex x i u) (hy : Ex y j u) : Float64.cmp x y = some (compare (i : Int) (j : Int)) := by
  obtain ⟨m, e, dx⟩ := hx.fin
  obtain ⟨k, f, dy⟩ := hy.fin
  rw [cmp_right dx dy, hx.val, hy.val]
  congr 1
  have hp := Nat.two_pow_pos u
  rcases Nat.lt_trichotomy i j with h | h | h
  · have := Nat.mul_lt_mul_of_pos_right h hp
    rw [Int.compare_eq_lt.mpr (by omega), Int.compare_eq_lt.mpr (by omega)]
  · subst h; simp
  · have := Nat.mul_lt_mul_of_pos_right h hp
    rw [Int.compare_eq_gt.mpr (by omega), Int.compare_eq_gt.mpr (by omega)]
theorem Ex.lt (hx : Ex x i u) (hy : Ex y j u) : (Float64.cmp x y == some Ordering.lt) = decide (i < j) := by
  rw [hx.cmp hy]
  rcases Nat.lt_trichotomy i j with h | h | h
  · rw [Int.compare_eq_lt.mpr (by omega), decide_eq_true h]; rfl
  · subst h; simp
  · rw [Int.compare_eq_gt.mpr (by omega), decide_eq_false (by omega)]; rfl
theorem Ex.eq (hx : Ex x i u) (hy : Ex y j u) : (Float64.cmp x y == some Ordering.eq) = decide (i = j) := by
  rw [hx.cmp hy]
  rcases Nat.lt_trichotomy i j with h | h | h
  · rw [Int.compare_eq_lt.mpr (by omega), decide_eq_false (by omega)]; rfl
  · subst h; simp
  · rw [Int.compare_eq_gt.mpr (by omega), decide_eq_false (by omega)]; rfl
theorem Ex.right (hx : Ex x i u) (hy : Ex y j u) (hj : 0 < j) : Right (Float64.div x y) false (i * 2 ^ u * 2 ^ 1074) (j * 2 ^ u) := by
  obtain ⟨m, e, dx⟩ := hx.fin
  obtain ⟨k, f, dy⟩ := hy.fin
  have hk : k ≠ 0 := fun q => by
    have hv := hy.val
    rw [val_eq dy, q, Nat.zero_mul, show sgn false 0 = 0 from rfl] at hv
    have := Nat.mul_pos hj (Nat.two_pow_pos u)
    omega
  have R := div_right dx dy hk
  rw [hx.val, hy.val, Int.natAbs_natCast, Int.natAbs_natCast] at R
  exact R
theorem small_w (hij : i ≤ j) (hj : 0 < j) : i * 2 ^ u * 2 ^ 1074 < 2 ^ 53 * eps * (j * 2 ^ u) := by
  rw [one_eq]
  have h1 : i * 2 ^ u ≤ j * 2 ^ u := Nat.mul_le_mul_right _ hij
  have h2 : 0 < j * 2 ^ u := Nat.mul_pos hj (Nat.two_pow_pos u)
  have hep := eps_pos
  generalize eps = E at *
  generalize j * 2 ^ u = b at *
  generalize i * 2 ^ u = a at *
  have h3 : a * (2 ^ 50 * E) ≤ b * (2 ^ 50 * E) := Nat.mul_le_mul_right _ h1
  have h4 : b * (2 ^ 50 * E) < b * (2 ^ 53 * E) := Nat.mul_lt_mul_of_pos_left (Nat.mul_lt_mul_of_pos_right (by decide) hep) h2
  rw [Nat.mul_comm (2 ^ 53 * E) b]
  omega
/-- a quotient of two such doubles -/
theorem Ex.div (hx : Ex x i u) (hy : Ex y j u) (hij : i ≤ j) (hj : 0 < j) : ∃ t, Float64.div x y = pack false t ∧ t < infMag ∧ dist (i * 2 ^ 1074) (j * V t) ≤ j * eps := by
  obtain ⟨t, hr, ht, hd⟩ := right_err (hx.right hy hj) (Nat.mul_pos hj (Nat.two_pow_pos u)) (small_w hij hj)
  refine ⟨t, hr, ht, ?_⟩
  have e1 : i * 2 ^ u * 2 ^ 1074 = i * 2 ^ 1074 * 2 ^ u := by
    generalize (2 : Nat) ^ 1074 = A
    generalize (2 : Nat) ^ u = B
    ac_rfl
  have e2 : j * 2 ^ u * V t = j * V t * 2 ^ u := by ac_rfl
  have e3 : j * 2 ^ u * eps = j * eps * 2 ^ u := by ac_rfl
  rw [e1, e2, e3, dist_scale] at hd
  exact Nat.le_of_mul_le_mul_right hd (Nat.two_pow_pos u)
theorem Ex.div_eq (hx : Ex x i u) (hy : Ex y j u) (hx' : Ex x' i' u') (hy' : Ex y' j' u') (hij : i ≤ j) (hj : 0 < j) (hij' : i' ≤ j') (hj' : 0 < j') (e : i * j' = i' * j) : Float64.div x y = Float64.div x' y' := by
  refine right_unique (hx.right hy hj) (hx'.right hy' hj') (Nat.mul_pos hj (Nat.two_pow_pos u)) (Nat.mul_pos hj' (Nat.two_pow_pos u')) ?_ (small_w hij hj) (small_w hij' hj')
  generalize (2 : Nat) ^ 1074 = A
  generalize (2 : Nat) ^ u = B
  generalize (2 : Nat) ^ u' = C
  calc i * B * A * (j' * C) = (i * j') * (A * B * C) := by ac_rfl
    _ = (i' * j) * (A * B * C) := by rw [e]
    _ = i' * C * A * (j * B) := by ac_rfl
end

section
variable {x y : UInt64}
theorem sgn_dist {neg : Bool} {s : Int} {t : Nat} (h : dist s.natAbs (V t) ≤ eps) (hn : neg = decide (s < 0)) : -(eps : Int) ≤ sgn neg (V t) - s ∧ sgn neg (V t) - s ≤ eps := by
  subst hn
  unfold dist at h
  unfold sgn
  by_cases hs : s < 0
  · rw [decide_eq_true hs]; simp only [if_true]; omega
  · rw [decide_eq_false hs]; simp only [Bool.false_eq_true, if_false]; omega
theorem add_near (hx : FinF x) (hy : FinF y) (h1 : -(2 ^ 53 * (eps : Int)) < val x + val y) (h2 : val x + val y < 2 ^ 53 * (eps : Int)) :
    FinF (Float64.add x y) ∧ -(eps : Int) ≤ val (Float64.add x y) - (val x + val y) ∧ val (Float64.add x y) - (val x + val y) ≤ eps := by
  obtain ⟨a, m, e, dx⟩ := hx
  obtain ⟨b, k, f, dy⟩ := hy
  obtain ⟨s0, s1⟩ := add_right dx dy
  by_cases h : val x + val y = 0
  · rw [s0 h, h]
    obtain ⟨m', e', hd⟩ := pack_fin (neg := a && b) (t := 0) (by decide +kernel)
    refine ⟨⟨_, _, _, hd⟩, ?_⟩
    have : val (zero (a && b)) = 0 := by
      show val (pack (a && b) 0) = 0
      rw [val_pack _ (by decide +kernel), V_zero]
      cases (a && b) <;> rfl
    rw [this]; omega
  · obtain ⟨t, hr, ht, hd⟩ := right_err (s1 h) (by decide) (by omega)
    rw [Nat.one_mul, Nat.one_mul] at hd
    obtain ⟨m', e', hd'⟩ := pack_fin (neg := decide (val x + val y < 0)) ht
    rw [hr]
    refine ⟨⟨_, _, _, hd'⟩, ?_⟩
    rw [val_pack _ ht]
    exact sgn_dist hd rfl
theorem sub_near (hx : FinF x) (hy : FinF y) (h1 : -(2 ^ 53 * (eps : Int)) < val x - val y) (h2 : val x - val y < 2 ^ 53 * (eps : Int)) :
    FinF (Float64.sub x y) ∧ -(eps : Int) ≤ val (Float64.sub x y) - (val x - val y) ∧ val (Float64.sub x y) - (val x - val y) ≤ eps ∧ (val x = val y → val (Float64.sub x y) = 0) := by
  obtain ⟨a, m, e, dx⟩ := hx
  obtain ⟨b, k, f, dy⟩ := hy
  obtain ⟨s0, s1⟩ := sub_right dx dy
  by_cases h : val x - val y = 0
  · rw [s0 h, h]
    obtain ⟨m', e', hd⟩ := pack_fin (neg := a && !b) (t := 0) (by decide +kernel)
    refine ⟨⟨_, _, _, hd⟩, ?_⟩
    have : val (zero (a && !b)) = 0 := by
      show val (pack (a && !b) 0) = 0
      rw [val_pack _ (by decide +kernel), V_zero]
      cases (a && !b) <;> rfl
    rw [this]; omega
  · obtain ⟨t, hr, ht, hd⟩ := right_err (s1 h) (by decide) (by omega)
    rw [Nat.one_mul, Nat.one_mul] at hd
    obtain ⟨m', e', hd'⟩ := pack_fin (neg := decide (val x - val y < 0)) ht
    rw [hr]
    refine ⟨⟨_, _, _, hd'⟩, ?_⟩
    rw [val_pack _ ht]
    have := sgn_dist (s := val x - val y) hd rfl
    exact ⟨this.1, this.2, fun q => by omega⟩
theorem val_six : val 4618441417868443648 = ((6 * 2 ^ 1074 : Nat) : Int) := by decide +kernel
theorem dec_six : decode 4618441417868443648 = .fin false 6755399441055744 (-50) := by kernel_rfl
theorem div6_near (hx : FinF x) (h1 : -(2 ^ 53 * (eps : Int)) < val x) (h2 : val x < 2 ^ 53 * (eps : Int)) :
    ∃ neg t, Float64.div x 4618441417868443648 = pack neg t ∧ t < infMag ∧ -(6 * (eps : Int)) ≤ 6 * sgn neg (V t) - val x ∧ 6 * sgn neg (V t) - val x ≤ 6 * (eps : Int) ∧ (val x = 0 → sgn neg (V t) = 0) := by
  obtain ⟨a, m, e, dx⟩ := hx
  have R := div_right dx dec_six (by decide)
  rw [val_six, Int.natAbs_natCast] at R
  have hpos : 0 < 6 * 2 ^ 1074 := Nat.mul_pos (by decide) (Nat.two_pow_pos _)
  have hw : (val x).natAbs * 2 ^ 1074 < 2 ^ 53 * eps * (6 * 2 ^ 1074) := by
    have q : (val x).natAbs < 6 * (2 ^ 53 * eps) := by omega
    have hp : 0 < 2 ^ 1074 := Nat.two_pow_pos _
    generalize 2 ^ 1074 = K at *
    generalize (val x).natAbs = v at *
    have h3 := Nat.mul_lt_mul_of_pos_right q hp
    have e1 : 6 * (2 ^ 53 * eps) * K = 2 ^ 53 * eps * (6 * K) := by
      generalize 2 ^ 53 * eps = B
      ac_rfl
    omega
  obtain ⟨t, hr, ht, hd⟩ := right_err R hpos hw
  have hz : (val x).natAbs = 0 → V t = 0 := fun q => by
    obtain ⟨t', hr', hle', hinf', hn'⟩ := R
    have q1 : t = t' := by
      have := hr.symm.trans hr'
      have h1 := pack_toNat (a != false) (t := t) (by have : infMag = 2047 * 2 ^ 52 := rfl; omega)
      have h2 := pack_toNat (a != false) (t := t') (by have : infMag = 2047 * 2 ^ 52 := rfl; omega)
      rw [this, h2] at h1
      omega
    subst q1
    have h3 := (hn' ht 0).1
    rw [V_zero, q, Nat.zero_mul, Nat.mul_zero, dist_self] at h3
    have h4 := dist_zero h3
    rcases Nat.mul_eq_zero.mp h4.symm with h5 | h5
    · omega
    · exact h5
  have hd2 : dist (val x).natAbs (6 * V t) ≤ 6 * eps := by
    have hp : 0 < 2 ^ 1074 := Nat.two_pow_pos _
    generalize 2 ^ 1074 = K at *
    have e2 : 6 * K * V t = 6 * V t * K := by ac_rfl
    have e3 : 6 * K * eps = 6 * eps * K := by ac_rfl
    rw [e2, e3, dist_scale] at hd
    exact Nat.le_of_mul_le_mul_right hd hp
  refine ⟨_, t, hr, ht, ?_⟩
  have hv := val_eq dx
  have hva := val_natAbs dx
  unfold dist at hd2
  rw [hv]
  generalize m * 2 ^ (e + 1074).toNat = M at *
  unfold sgn
  cases a
  · simp only [bne_self_eq_false, Bool.false_eq_true, if_false]
    refine ⟨by omega, by omega, fun q => ?_⟩
    have := hz (by omega)
    omega
  · simp only [show ((true != false) = true) from rfl, if_true]
    refine ⟨by omega, by omega, fun q => ?_⟩
    have := hz (by omega)
    omega
end

theorem dec_one : decode 4607182418800017408 = .fin false 4503599627370496 (-52) := by kernel_rfl
theorem val_one : val 4607182418800017408 = ((2 ^ 1074 : Nat) : Int) := by decide +kernel
theorem val_two : val 4611686018427387904 = ((2 * 2 ^ 1074 : Nat) : Int) := by decide +kernel
theorem val_four : val 4616189618054758400 = ((4 * 2 ^ 1074 : Nat) : Int) := by decide +kernel
theorem dec_two : decode 4611686018427387904 = .fin false 4503599627370496 (-51) := by kernel_rfl
theorem dec_four : decode 4616189618054758400 = .fin false 4503599627370496 (-50) := by kernel_rfl
theorem fmod_one {neg : Bool} {t : Nat} (ht : t < infMag) (hlt : V t < 2 ^ 1074) : fmod (pack neg t) 4607182418800017408 = pack neg t := by
  obtain ⟨m, e, hd, hv⟩ := decode_pack neg ht
  have he := decode_ge hd
  have hf : fmod (pack neg t) 4607182418800017408 = ofBin neg ((m * 2 ^ (e - min e (-52)).toNat) % (4503599627370496 * 2 ^ ((-52) - min e (-52)).toNat)) (min e (-52)) := by
    unfold fmod
    rw [hd, dec_one]
    rfl
  have hp : m * 2 ^ (e - min e (-52)).toNat * 2 ^ (min e (-52) + 1074).toNat = V t := by
    rw [Nat.mul_assoc, ← Nat.pow_add, ← hv]
    congr 2
    omega
  have hq : 4503599627370496 * 2 ^ ((-52) - min e (-52)).toNat * 2 ^ (min e (-52) + 1074).toNat = 2 ^ 1074 := by
    rw [Nat.mul_assoc, ← Nat.pow_add]
    rw [show ((-52) - min e (-52)).toNat + (min e (-52) + 1074).toNat = 1022 by omega]
    rw [show (4503599627370496 : Nat) = 2 ^ 52 by decide, ← Nat.pow_add]
  have hpq : m * 2 ^ (e - min e (-52)).toNat < 4503599627370496 * 2 ^ ((-52) - min e (-52)).toNat := by
    rw [← hp, ← hq] at hlt
    exact Nat.lt_of_mul_lt_mul_right hlt
  rw [hf, Nat.mod_eq_of_lt hpq]
  generalize m * 2 ^ (e - min e (-52)).toNat = p at *
  have hsh := shift_one p (min e (-52)) 1074 (by omega)
  have R : Right (ofBin neg p (min e (-52))) neg (V t) 1 := by
    unfold ofBin
    refine ofFrac_right (shift_pos _ _ _ (by decide)) ?_ (by decide)
    rw [Nat.mul_one, ← hp]
    exact hsh
  have hw : V t < 2 ^ 53 * eps * 1 := by
    rw [one_eq] at hlt
    omega
  obtain ⟨t', hr, hle, hinf, hn⟩ := R
  obtain ⟨s, hs, hsl, _⟩ := right_err ⟨t', hr, hle, hinf, hn⟩ (by decide) hw
  have q : t' = s := by
    have := hr.symm.trans hs
    have h1 := pack_toNat neg (t := t') (by have : infMag = 2047 * 2 ^ 52 := rfl; omega)
    have h2 := pack_toNat neg (t := s) (by have : infMag = 2047 * 2 ^ 52 := rfl; omega)
    rw [this, h2] at h1
    omega
  have h3 := (hn (q ▸ hsl) t).1
  rw [Nat.one_mul, Nat.one_mul, dist_self] at h3
  have h4 := dist_zero h3
  have h5 : t' = t := by
    rcases Nat.lt_trichotomy t' t with h | h | h
    · have := V_lt h; omega
    · exact h
    · have := V_lt h; omega
  rw [hr, h5]
theorem lt_zero {neg : Bool} {t : Nat} (ht : t < infMag) : Float64.lt (pack neg t) (zero false) = decide (sgn neg (V t) < 0) := by
  obtain ⟨m, e, hd, hv⟩ := decode_pack neg ht
  obtain ⟨m0, e0, hd0, hv0⟩ := decode_pack false (t := 0) (by decide +kernel)
  unfold Float64.lt
  show (cmp (pack neg t) (pack false 0) == some .lt) = _
  rw [cmp_right hd hd0, val_pack neg ht, val_pack false (by decide +kernel), V_zero, show sgn false 0 = 0 from rfl]
  rcases Int.lt_trichotomy (sgn neg (V t)) 0 with h | h | h
  · rw [Int.compare_eq_lt.mpr h, decide_eq_true h]; rfl
  · rw [h]; rfl
  · rw [Int.compare_eq_gt.mpr h, decide_eq_false (by omega)]; rfl
theorem mod1 {neg : Bool} {t : Nat} (ht : t < infMag) (hlt : V t < 2 ^ 1074) :
    FinF (divmod (pack neg t) 4607182418800017408).2 ∧ (0 ≤ sgn neg (V t) → val (divmod (pack neg t) 4607182418800017408).2 = sgn neg (V t)) ∧
    (sgn neg (V t) < 0 → -(eps : Int) ≤ val (divmod (pack neg t) 4607182418800017408).2 - (sgn neg (V t) + ((2 ^ 1074 : Nat) : Int)) ∧ val (divmod (pack neg t) 4607182418800017408).2 - (sgn neg (V t) + ((2 ^ 1074 : Nat) : Int)) ≤ eps) := by
  have hdm : (divmod (pack neg t) 4607182418800017408).2 = if isZero (pack neg t) = true then copysign (zero false) 4607182418800017408 else if (Float64.lt 4607182418800017408 (zero false) != Float64.lt (pack neg t) (zero false)) = true then Float64.add (pack neg t) 4607182418800017408 else pack neg t := by
    unfold divmod
    simp only [fmod_one ht hlt]
    split
    · rfl
    · split <;> rfl
  rw [hdm]
  have hone : Float64.lt 4607182418800017408 (zero false) = false := by decide +kernel
  rw [hone, lt_zero ht]
  obtain ⟨m, e, hd, hv⟩ := decode_pack neg ht
  by_cases hz : isZero (pack neg t) = true
  · rw [if_pos hz]
    have h0 : V t = 0 := by
      unfold isZero at hz
      rw [hd] at hz
      cases m with
      | zero => rw [← hv, Nat.zero_mul]
      | succ m => simp at hz
    have hc : copysign (zero false) 4607182418800017408 = pack false 0 := by decide +kernel
    rw [hc, h0]
    have hs0 : sgn neg 0 = 0 := by cases neg <;> rfl
    obtain ⟨m0, e0, hd0, hv0⟩ := decode_pack false (t := 0) (by decide +kernel)
    refine ⟨⟨_, _, _, hd0⟩, fun _ => ?_, fun h => by rw [hs0] at h; omega⟩
    rw [val_pack false (by decide +kernel), V_zero, hs0]; rfl
  · rw [if_neg hz]
    by_cases hs : sgn neg (V t) < 0
    · rw [decide_eq_true hs, show (false != true) = true from rfl, if_pos rfl]
      have hp := val_pack neg ht
      have hn : sgn neg (V t) = -(V t : Int) := by
        cases neg
        · unfold sgn at hs; simp at hs; omega
        · rfl
      rw [one_eq] at hlt
      have q := add_near (x := pack neg t) (y := 4607182418800017408) ⟨_, _, _, hd⟩ ⟨_, _, _, dec_one⟩ (by rw [hp, val_one, hn, one_eq]; omega) (by rw [hp, val_one, hn, one_eq]; omega)
      rw [hp, val_one] at q
      exact ⟨q.1, fun h => by omega, fun _ => q.2⟩
    · rw [decide_eq_false hs, show (false != false) = false from rfl, if_neg (by decide)]
      exact ⟨⟨_, _, _, hd⟩, fun _ => val_pack neg ht, fun h => absurd h hs⟩
end Mine
end PartMR
section PartMS
open PySem PySem.W PyProof.Rows PySem.Flt
namespace Mine
open PySem.Float64 (val sgn V pack infMag)
theorem fin_hue {h : UInt64} {D Hn : Int} (hf : FinF h) (hD : 1 ≤ D) (hD2 : D ≤ 4096)
    (l1 : -(4 * (D * eps)) ≤ D * val h - Hn * (2 ^ 50 * eps)) (l2 : D * val h - Hn * (2 ^ 50 * eps) ≤ 4 * (D * eps)) (b1 : -D ≤ Hn) (b2 : Hn < 6 * D) (hz : Hn = 0 → val h = 0) :
    FinF (Float64.divmod (Float64.div h 4618441417868443648) 4607182418800017408).2 ∧
    (0 ≤ Hn → -(16 * (D * eps)) ≤ 6 * (D * val (Float64.divmod (Float64.div h 4618441417868443648) 4607182418800017408).2) - Hn * (2 ^ 50 * eps) ∧ 6 * (D * val (Float64.divmod (Float64.div h 4618441417868443648) 4607182418800017408).2) - Hn * (2 ^ 50 * eps) ≤ 16 * (D * eps)) ∧
    (Hn < 0 → -(16 * (D * eps)) ≤ 6 * (D * val (Float64.divmod (Float64.div h 4618441417868443648) 4607182418800017408).2) - (Hn + 6 * D) * (2 ^ 50 * eps) ∧ 6 * (D * val (Float64.divmod (Float64.div h 4618441417868443648) 4607182418800017408).2) - (Hn + 6 * D) * (2 ^ 50 * eps) ≤ 16 * (D * eps)) := by
  have hE : (1 : Int) ≤ (eps : Int) := by have := eps_pos; omega
  have hDE : D * (eps : Int) ≤ 4096 * (eps : Int) := Int.mul_le_mul_of_nonneg_right hD2 (by omega)
  have hDE1 : 1 * (eps : Int) ≤ D * (eps : Int) := Int.mul_le_mul_of_nonneg_right hD (by omega)
  have up : ∀ k v : Int, k ≤ v → D * k ≤ D * v := fun k v q => Int.mul_le_mul_of_nonneg_left q (by omega)
  have kE : ∀ k : Int, D * (k * eps) = k * (D * eps) := fun k => by rw [← Int.mul_assoc, Int.mul_comm D k, Int.mul_assoc]
  have hn1 : Hn * (2 ^ 50 * eps) ≤ (6 * D - 1) * (2 ^ 50 * eps) := Int.mul_le_mul_of_nonneg_right (by omega) (by omega)
  have hn2 : (-D) * (2 ^ 50 * eps) ≤ Hn * (2 ^ 50 * eps) := Int.mul_le_mul_of_nonneg_right (by omega) (by omega)
  have e1 : (6 * D - 1) * (2 ^ 50 * (eps : Int)) = 6 * 2 ^ 50 * (D * eps) - 2 ^ 50 * eps := by rw [Int.sub_mul, Int.mul_assoc 6 D, kE]; omega
  have e2 : (-D) * (2 ^ 50 * (eps : Int)) = -(2 ^ 50 * (D * eps)) := by rw [Int.neg_mul, kE]
  rw [e1] at hn1
  rw [e2] at hn2
  have v1 : val h < 6 * 2 ^ 50 * eps - 6 * eps := by
    refine Int.not_le.mp fun q => ?_
    have := up _ _ q
    rw [Int.mul_sub, kE, kE] at this
    omega
  have v2 : -(2 * 2 ^ 50 * (eps : Int)) < val h := by
    refine Int.not_le.mp fun q => ?_
    have := up _ _ q
    rw [show -(2 * 2 ^ 50 * (eps : Int)) = (-(2 * 2 ^ 50)) * eps by omega, kE] at this
    omega
  obtain ⟨neg, t, hr, ht, d1, d2, d3⟩ := div6_near hf (by omega) (by omega)
  rw [hr]
  have hV : V t < 2 ^ 1074 := by
    rw [one_eq]
    have : (sgn neg (V t)).natAbs = V t := PySem.Float64.sgn_natAbs neg (V t)
    omega
  obtain ⟨m0, m1, m2⟩ := mod1 (neg := neg) ht hV
  refine ⟨m0, ?_⟩
  rw [one_eq] at m2
  generalize val (Float64.divmod (pack neg t) 4607182418800017408).2 = k at *
  generalize sgn neg (V t) = v at *
  generalize val h = x at *
  have u1 := up _ _ d1
  have u2 := up _ _ d2
  rw [Int.mul_sub] at u1 u2
  rw [show -(6 * (eps : Int)) = (-6) * eps by omega, kE] at u1
  rw [kE] at u2
  have e3 : D * (6 * v) = 6 * (D * v) := by rw [← Int.mul_assoc, Int.mul_comm D 6, Int.mul_assoc]
  rw [e3] at u1 u2
  have pos : 1 ≤ Hn → 0 ≤ v := fun q => by
    refine Int.not_lt.mp fun q2 => ?_
    have h1 : 1 * (2 ^ 50 * (eps : Int)) ≤ Hn * (2 ^ 50 * eps) := Int.mul_le_mul_of_nonneg_right q (by omega)
    have h2 := up v (-1) (by omega)
    have h3 : D * (-1) = -D := by omega
    omega
  have negv : Hn ≤ -1 → v < 0 := fun q => by
    refine Int.not_le.mp fun q2 => ?_
    have h1 : Hn * (2 ^ 50 * (eps : Int)) ≤ (-1) * (2 ^ 50 * eps) := Int.mul_le_mul_of_nonneg_right q (by omega)
    have h2 := up 0 v q2
    rw [Int.mul_zero] at h2
    omega
  constructor
  · intro q
    have hv : 0 ≤ v := by
      by_cases q0 : Hn = 0
      · have := d3 (hz q0); omega
      · exact pos (by omega)
    rw [m1 hv]
    omega
  · intro q
    obtain ⟨w1, w2⟩ := m2 (negv (by omega))
    have y1 := up _ _ w1
    have y2 := up _ _ w2
    rw [show (((2 ^ 50 * eps : Nat) : Int)) = 2 ^ 50 * (eps : Int) by omega] at y1 y2
    rw [Int.mul_sub, Int.mul_add, kE] at y1 y2
    rw [show -(eps : Int) = (-1) * eps by omega, kE] at y1
    have e4 : (Hn + 6 * D) * (2 ^ 50 * (eps : Int)) = Hn * (2 ^ 50 * eps) + 6 * 2 ^ 50 * (D * eps) := by rw [Int.add_mul, Int.mul_assoc 6 D, kE]; omega
    rw [e4]
    omega

theorem ofInt_ex {n : Nat} (h : n ≤ 4096) : Ex (Float64.ofInt n) n 1074 := by
  have R := PySem.Float64.ofInt_right (n : Int)
  rw [show decide ((n : Int) < 0) = false from decide_eq_false (by omega), Int.natAbs_natCast] at R
  exact right_exact R (by decide) (by omega) (by omega) (by decide) (by decide)
theorem ex_4096 : Ex 4661225614328463360 4096 1074 := ⟨4661225614328463360, by decide +kernel, by decide +kernel, by decide +kernel⟩
theorem ex_8 : Ex 4620693217682128896 8 1074 := ⟨4620693217682128896, by decide +kernel, by decide +kernel, by decide +kernel⟩
theorem q4096_ex (n : Nat) (h : n ≤ 4096) : Ex (q4096 n) n 1062 := by
  unfold q4096
  refine right_exact ((ofInt_ex h).right ex_4096 (by decide)) (Nat.mul_pos (by decide) (Nat.two_pow_pos _)) ?_ (by omega) (by decide) (by decide)
  have e1 : (2 : Nat) ^ 1074 = 4096 * 2 ^ 1062 := by rw [show (4096 : Nat) = 2 ^ 12 by decide, ← Nat.pow_add]
  rw [show n * 2 ^ 1074 * 2 ^ 1074 = n * 2 ^ 1074 * (4096 * 2 ^ 1062) by rw [e1]]
  generalize (2 : Nat) ^ 1074 = A
  generalize (2 : Nat) ^ 1062 = B
  ac_rfl
theorem q8_ex (n : Nat) (h : n ≤ 4096) : Ex (q8 n) n 1071 := by
  unfold q8
  refine right_exact ((ofInt_ex h).right ex_8 (by decide)) (Nat.mul_pos (by decide) (Nat.two_pow_pos _)) ?_ (by omega) (by decide) (by decide)
  have e1 : (2 : Nat) ^ 1074 = 8 * 2 ^ 1071 := by rw [show (8 : Nat) = 2 ^ 3 by decide, ← Nat.pow_add]
  rw [show n * 2 ^ 1074 * 2 ^ 1074 = n * 2 ^ 1074 * (8 * 2 ^ 1071) by rw [e1]]
  generalize (2 : Nat) ^ 1074 = A
  generalize (2 : Nat) ^ 1071 = B
  ac_rfl
/-- a way to lay whole numbers as doubles, exact -/
structure Lays (q : Int → UInt64) (u : Nat) : Prop where
  ex : ∀ n : Nat, n ≤ 4096 → Ex (q n) n u
  lo : 52 ≤ u
  hi : u ≤ 1100
theorem lays_4096 : Lays q4096 1062 := ⟨q4096_ex, by decide, by decide⟩
theorem lays_8 : Lays q8 1071 := ⟨q8_ex, by decide, by decide⟩
section
variable {q : Int → UInt64} {u : Nat} (hq : Lays q u) {r g b M m : Nat}
include hq
theorem max3_q (hr : r ≤ 4096) (hg : g ≤ 4096) (hb : b ≤ 4096) (h1 : r ≤ M ∧ g ≤ M ∧ b ≤ M) (h2 : M = r ∨ M = g ∨ M = b) : max3 (q r) (q g) (q b) = q M := by
  unfold max3
  rw [(hq.ex r hr).lt (hq.ex g hg), (hq.ex g hg).lt (hq.ex b hb), (hq.ex r hr).lt (hq.ex b hb)]
  by_cases c1 : r < g
  · by_cases c2 : g < b
    · simp only [c1, c2, decide_true, if_true]; rw [show b = M by omega]
    · simp only [c1, c2, decide_true, decide_false, if_true, Bool.false_eq_true, if_false]; rw [show g = M by omega]
  · by_cases c2 : r < b
    · simp only [c1, c2, decide_true, decide_false, if_true, Bool.false_eq_true, if_false]; rw [show b = M by omega]
    · simp only [c1, c2, decide_false, Bool.false_eq_true, if_false]; rw [show r = M by omega]
theorem min3_q (hr : r ≤ 4096) (hg : g ≤ 4096) (hb : b ≤ 4096) (h1 : m ≤ r ∧ m ≤ g ∧ m ≤ b) (h2 : m = r ∨ m = g ∨ m = b) : min3 (q r) (q g) (q b) = q m := by
  unfold min3
  rw [(hq.ex g hg).lt (hq.ex r hr), (hq.ex b hb).lt (hq.ex g hg), (hq.ex b hb).lt (hq.ex r hr)]
  by_cases c1 : g < r
  · by_cases c2 : b < g
    · simp only [c1, c2, decide_true, if_true]; rw [show b = m by omega]
    · simp only [c1, c2, decide_true, decide_false, if_true, Bool.false_eq_true, if_false]; rw [show g = m by omega]
  · by_cases c2 : b < r
    · simp only [c1, c2, decide_true, decide_false, if_true, Bool.false_eq_true, if_false]; rw [show b = m by omega]
    · simp only [c1, c2, decide_false, Bool.false_eq_true, if_false]; rw [show r = m by omega]
theorem eqF_q (hr : r ≤ 4096) (hM : M ≤ 4096) : eqF (q r) (q M) = decide (r = M) := (hq.ex r hr).eq (hq.ex M hM)
end
def rat (q : Int → UInt64) (M m x : Nat) : UInt64 := Float64.div (Float64.sub (q M) (q x)) (Float64.sub (q M) (q m))
section
variable {q : Int → UInt64} {u : Nat} (hq : Lays q u) {x y z M m : Nat}
include hq
theorem rat_near (hM : M ≤ 4096) (hm : m < M) (h1 : m ≤ x) (h2 : x ≤ M) : FinF (rat q M m x) ∧ 0 ≤ val (rat q M m x) ∧
    -(((M - m : Nat) : Int) * eps) ≤ ((M - m : Nat) : Int) * val (rat q M m x) - ((M - x : Nat) : Int) * (2 ^ 50 * eps) ∧ ((M - m : Nat) : Int) * val (rat q M m x) - ((M - x : Nat) : Int) * (2 ^ 50 * eps) ≤ ((M - m : Nat) : Int) * eps := by
  have x1 := (hq.ex M hM).sub (hq.ex x (by omega)) h2 (by omega) hq.lo hq.hi
  have x2 := (hq.ex M hM).sub (hq.ex m (by omega)) (by omega) (by omega) hq.lo hq.hi
  obtain ⟨t, hr, ht, hd⟩ := x1.div x2 (by omega) (by omega)
  unfold rat
  rw [hr]
  obtain ⟨m', e', hd'⟩ := pack_fin (neg := false) ht
  rw [PySem.Float64.val_pack false ht]
  refine ⟨⟨_, _, _, hd'⟩, ?_⟩
  have e0 : sgn false (V t) = (V t : Int) := rfl
  rw [e0]
  rw [one_eq] at hd
  unfold PySem.Float64.dist at hd
  have e1 : (((M - m) * V t : Nat) : Int) = ((M - m : Nat) : Int) * (V t : Int) := Int.natCast_mul _ _
  have e2 : (((M - x) * (2 ^ 50 * eps) : Nat) : Int) = ((M - x : Nat) : Int) * (2 ^ 50 * (eps : Int)) := by rw [Int.natCast_mul]; congr 1
  have e3 : (((M - m) * eps : Nat) : Int) = ((M - m : Nat) : Int) * (eps : Int) := Int.natCast_mul _ _
  rw [← e1, ← e2, ← e3]
  omega
theorem rat_le (hM : M ≤ 4096) (hm : m < M) (h1 : m ≤ x) (h2 : x ≤ M) : val (rat q M m x) ≤ 2 ^ 50 * eps + eps := by
  obtain ⟨_, _, _, h⟩ := rat_near hq hM hm h1 h2
  refine Int.not_lt.mp fun k => ?_
  have hE := eps_pos
  have h3 : ((M - m : Nat) : Int) * (2 ^ 50 * eps + eps + 1) ≤ ((M - m : Nat) : Int) * val (rat q M m x) := Int.mul_le_mul_of_nonneg_left (by omega) (by omega)
  have h4 : ((M - x : Nat) : Int) * (2 ^ 50 * eps) ≤ ((M - m : Nat) : Int) * (2 ^ 50 * eps) := Int.mul_le_mul_of_nonneg_right (by omega) (by omega)
  rw [Int.mul_add, Int.mul_add] at h3
  omega
/-- red is greatest -/
theorem hueR (hM : M ≤ 4096) (hm : m < M) (h1 : m ≤ y) (h2 : y ≤ M) (h3 : m ≤ z) (h4 : z ≤ M) {D Hn : Int} (hD : D = ((M - m : Nat) : Int)) (hH : Hn = ((M - z : Nat) : Int) - ((M - y : Nat) : Int)) :
    FinF (Float64.sub (rat q M m z) (rat q M m y)) ∧ -(4 * (D * eps)) ≤ D * val (Float64.sub (rat q M m z) (rat q M m y)) - Hn * (2 ^ 50 * eps) ∧ D * val (Float64.sub (rat q M m z) (rat q M m y)) - Hn * (2 ^ 50 * eps) ≤ 4 * (D * eps) ∧ (Hn = 0 → val (Float64.sub (rat q M m z) (rat q M m y)) = 0) := by
  obtain ⟨fz, z0, z1, z2⟩ := rat_near hq hM hm h3 h4
  obtain ⟨fy, y0, y1, y2⟩ := rat_near hq hM hm h1 h2
  have bz := rat_le hq hM hm h3 h4
  have by' := rat_le hq hM hm h1 h2
  have hE := eps_pos
  obtain ⟨f, s1, s2, s3⟩ := sub_near fz fy (by omega) (by omega)
  subst hD hH
  rw [Int.sub_mul]
  have up : ∀ k v : Int, k ≤ v → ((M - m : Nat) : Int) * k ≤ ((M - m : Nat) : Int) * v := fun k v q => Int.mul_le_mul_of_nonneg_left q (by omega)
  have u1 := up _ _ s1
  have u2 := up _ _ s2
  rw [Int.mul_sub, Int.mul_sub] at u1 u2
  rw [Int.mul_neg] at u1
  have hDE : 0 ≤ ((M - m : Nat) : Int) * (eps : Int) := Int.mul_nonneg (by omega) (by omega)
  refine ⟨f, by omega, by omega, fun k => s3 ?_⟩
  have : z = y := by omega
  rw [this]
/-- another is greatest: c lies ahead (two or four) -/
theorem hueO {c : UInt64} {cn : Int} (hc : FinF c) (hcv : val c = cn * (2 ^ 50 * eps)) (hcn : 0 ≤ cn ∧ cn ≤ 4) (hM : M ≤ 4096) (hm : m < M) (h1 : m ≤ y) (h2 : y ≤ M) (h3 : m ≤ z) (h4 : z ≤ M) {D Hn : Int} (hD : D = ((M - m : Nat) : Int)) (hH : Hn = cn * D + ((M - z : Nat) : Int) - ((M - y : Nat) : Int)) :
    FinF (Float64.sub (Float64.add c (rat q M m z)) (rat q M m y)) ∧ -(4 * (D * eps)) ≤ D * val (Float64.sub (Float64.add c (rat q M m z)) (rat q M m y)) - Hn * (2 ^ 50 * eps) ∧ D * val (Float64.sub (Float64.add c (rat q M m z)) (rat q M m y)) - Hn * (2 ^ 50 * eps) ≤ 4 * (D * eps) := by
  obtain ⟨fz, z0, z1, z2⟩ := rat_near hq hM hm h3 h4
  obtain ⟨fy, y0, y1, y2⟩ := rat_near hq hM hm h1 h2
  have bz := rat_le hq hM hm h3 h4
  have by' := rat_le hq hM hm h1 h2
  have hE := eps_pos
  have c1 : 0 ≤ cn * (2 ^ 50 * (eps : Int)) := Int.mul_nonneg hcn.1 (by omega)
  have c2 : cn * (2 ^ 50 * (eps : Int)) ≤ 4 * (2 ^ 50 * (eps : Int)) := Int.mul_le_mul_of_nonneg_right hcn.2 (by omega)
  obtain ⟨fa, a1, a2⟩ := add_near hc fz (by omega) (by omega)
  obtain ⟨f, s1, s2, s3⟩ := sub_near fa fy (by omega) (by omega)
  subst hD hH
  have up : ∀ k v : Int, k ≤ v → ((M - m : Nat) : Int) * k ≤ ((M - m : Nat) : Int) * v := fun k v q => Int.mul_le_mul_of_nonneg_left q (by omega)
  have u1 := up _ _ s1
  have u2 := up _ _ s2
  have w1 := up _ _ a1
  have w2 := up _ _ a2
  rw [Int.mul_sub, Int.mul_sub] at u1 u2
  rw [Int.mul_sub, Int.mul_add] at w1 w2
  rw [Int.mul_neg] at u1 w1
  rw [hcv] at w1 w2
  rw [Int.sub_mul, Int.add_mul]
  have e1 : ((M - m : Nat) : Int) * (cn * (2 ^ 50 * (eps : Int))) = cn * ((M - m : Nat) : Int) * (2 ^ 50 * eps) := by rw [← Int.mul_assoc, Int.mul_comm _ cn]
  rw [e1] at w1 w2
  have hDE : 0 ≤ ((M - m : Nat) : Int) * (eps : Int) := Int.mul_nonneg (by omega) (by omega)
  exact ⟨f, by omega, by omega⟩
end

section
variable {q : Int → UInt64} {u : Nat} (hq : Lays q u) {r g b M m : Nat}
include hq
theorem hueF_q (hr : r ≤ 4096) (hg : g ≤ 4096) (hb : b ≤ 4096) (h1 : r ≤ M ∧ g ≤ M ∧ b ≤ M) (h2 : M = r ∨ M = g ∨ M = b) (h3 : m ≤ r ∧ m ≤ g ∧ m ≤ b) (h4 : m = r ∨ m = g ∨ m = b) (hm : m < M) :
    hueF (q r) (q g) (q b) = (Float64.divmod (Float64.div (if r = M then Float64.sub (rat q M m b) (rat q M m g) else if g = M then Float64.sub (Float64.add 4611686018427387904 (rat q M m r)) (rat q M m b) else Float64.sub (Float64.add 4616189618054758400 (rat q M m g)) (rat q M m r)) 4618441417868443648) 4607182418800017408).2 := by
  have hM : M ≤ 4096 := by omega
  unfold hueF
  rw [max3_q hq hr hg hb h1 h2, min3_q hq hr hg hb h3 h4, eqF_q hq (by omega) hM, decide_eq_false (by omega), if_neg (by decide)]
  unfold hueOf
  rw [eqF_q hq hr hM, eqF_q hq hg hM]
  unfold rat
  by_cases c1 : r = M
  · rw [decide_eq_true c1, if_pos rfl, if_pos c1]
  · rw [decide_eq_false c1, if_neg (by decide), if_neg c1]
    by_cases c2 : g = M
    · rw [decide_eq_true c2, if_pos rfl, if_pos c2]
    · rw [decide_eq_false c2, if_neg (by decide), if_neg c2]
theorem hueF_grey (hr : r ≤ 4096) : hueF (q r) (q r) (q r) = 0 := by
  unfold hueF
  rw [max3_q hq hr hr hr (M := r) (by omega) (by omega), min3_q hq hr hr hr (m := r) (by omega) (by omega), eqF_q hq hr hr, decide_eq_true rfl, if_pos rfl]
end
/-- the six sextants: a times one corner and b times the next -/
def col3 (s a b : Nat) : Nat × Nat × Nat := match s with
  | 0 => (a + b, b, 0)
  | 1 => (a, a + b, 0)
  | 2 => (0, a + b, b)
  | 3 => (0, a, a + b)
  | 4 => (b, 0, a + b)
  | _ => (a + b, 0, a)
def hueW (q : Int → UInt64) (w s a b : Nat) : UInt64 := hueF (q ((w + (col3 s a b).1 : Nat) : Int)) (q ((w + (col3 s a b).2.1 : Nat) : Int)) (q ((w + (col3 s a b).2.2 : Nat) : Int))
def NearHue (k : Int) (s a b : Nat) : Prop := -(16 * (((a + b : Nat) : Int) * eps)) ≤ 6 * (((a + b : Nat) : Int) * k) - ((s * (a + b) + b : Nat) : Int) * (2 ^ 50 * eps) ∧ 6 * (((a + b : Nat) : Int) * k) - ((s * (a + b) + b : Nat) : Int) * (2 ^ 50 * eps) ≤ 16 * (((a + b : Nat) : Int) * eps)
theorem two_val : val 4611686018427387904 = 2 * (2 ^ 50 * (eps : Int)) := by rw [val_two, one_eq]; omega
theorem four_val : val 4616189618054758400 = 4 * (2 ^ 50 * (eps : Int)) := by rw [val_four, one_eq]; omega
section
variable {q : Int → UInt64} {u : Nat} (hq : Lays q u) {w s a b : Nat}
include hq
theorem hue_near (hs : s < 6) (ha : 1 ≤ a) (hw : w + a + b ≤ 4096) : FinF (hueW q w s a b) ∧ NearHue (val (hueW q w s a b)) s a b := by
  unfold hueW NearHue
  have hD : ((a + b : Nat) : Int) = (((w + a + b) - w : Nat) : Int) := by omega
  have c2 : FinF 4611686018427387904 := ⟨_, _, _, dec_two⟩
  have c4 : FinF 4616189618054758400 := ⟨_, _, _, dec_four⟩
  match s, hs with
  | 0, _ =>
    rw [show col3 0 a b = (a + b, b, 0) from rfl]
    dsimp only
    rw [hueF_q hq (M := w + a + b) (m := w) (by omega) (by omega) (by omega) (by omega) (by omega) (by omega) (by omega) (by omega), if_pos (by omega)]
    obtain ⟨f, l1, l2, l3⟩ := hueR hq (M := w + a + b) (m := w) (y := w + b) (z := w + 0) hw (by omega) (by omega) (by omega) (by omega) (by omega) hD (Hn := (b : Int)) (by omega)
    obtain ⟨f', k1, _⟩ := fin_hue f (by omega) (by omega) l1 l2 (by omega) (by omega) l3
    rw [show (0 * (a + b) + b : Nat) = b by omega]
    exact ⟨f', k1 (by omega)⟩
  | 1, _ =>
    rw [show col3 1 a b = (a, a + b, 0) from rfl]
    dsimp only
    by_cases h0 : b = 0
    · subst h0
      rw [hueF_q hq (M := w + a + 0) (m := w) (by omega) (by omega) (by omega) (by omega) (by omega) (by omega) (by omega) (by omega), if_pos (by omega)]
      obtain ⟨f, l1, l2, l3⟩ := hueR hq (M := w + a + 0) (m := w) (y := w + (a + 0)) (z := w + 0) hw (by omega) (by omega) (by omega) (by omega) (by omega) hD (Hn := (a : Int)) (by omega)
      obtain ⟨f', k1, _⟩ := fin_hue f (by omega) (by omega) l1 l2 (by omega) (by omega) l3
      rw [show (1 * (a + 0) + 0 : Nat) = a by omega]
      exact ⟨f', k1 (by omega)⟩
    · rw [hueF_q hq (M := w + a + b) (m := w) (by omega) (by omega) (by omega) (by omega) (by omega) (by omega) (by omega) (by omega), if_neg (by omega), if_pos (by omega)]
      obtain ⟨f, l1, l2⟩ := hueO hq (M := w + a + b) (m := w) (y := w + 0) (z := w + a) c2 two_val (by omega) hw (by omega) (by omega) (by omega) (by omega) (by omega) hD (Hn := ((1 * (a + b) + b : Nat) : Int)) (by omega)
      obtain ⟨f', k1, _⟩ := fin_hue f (by omega) (by omega) l1 l2 (by omega) (by omega) (fun k => by omega)
      exact ⟨f', k1 (by omega)⟩
  | 2, _ =>
    rw [show col3 2 a b = (0, a + b, b) from rfl]
    dsimp only
    rw [hueF_q hq (M := w + a + b) (m := w) (by omega) (by omega) (by omega) (by omega) (by omega) (by omega) (by omega) (by omega), if_neg (by omega), if_pos (by omega)]
    obtain ⟨f, l1, l2⟩ := hueO hq (M := w + a + b) (m := w) (y := w + b) (z := w + 0) c2 two_val (by omega) hw (by omega) (by omega) (by omega) (by omega) (by omega) hD (Hn := ((2 * (a + b) + b : Nat) : Int)) (by omega)
    obtain ⟨f', k1, _⟩ := fin_hue f (by omega) (by omega) l1 l2 (by omega) (by omega) (fun k => by omega)
    exact ⟨f', k1 (by omega)⟩
  | 3, _ =>
    rw [show col3 3 a b = (0, a, a + b) from rfl]
    dsimp only
    by_cases h0 : b = 0
    · subst h0
      rw [hueF_q hq (M := w + a + 0) (m := w) (by omega) (by omega) (by omega) (by omega) (by omega) (by omega) (by omega) (by omega), if_neg (by omega), if_pos (by omega)]
      obtain ⟨f, l1, l2⟩ := hueO hq (M := w + a + 0) (m := w) (y := w + (a + 0)) (z := w + 0) c2 two_val (by omega) hw (by omega) (by omega) (by omega) (by omega) (by omega) hD (Hn := ((3 * (a + 0) + 0 : Nat) : Int)) (by omega)
      obtain ⟨f', k1, _⟩ := fin_hue f (by omega) (by omega) l1 l2 (by omega) (by omega) (fun k => by omega)
      exact ⟨f', k1 (by omega)⟩
    · rw [hueF_q hq (M := w + a + b) (m := w) (by omega) (by omega) (by omega) (by omega) (by omega) (by omega) (by omega) (by omega), if_neg (by omega), if_neg (by omega)]
      obtain ⟨f, l1, l2⟩ := hueO hq (M := w + a + b) (m := w) (y := w + 0) (z := w + a) c4 four_val (by omega) hw (by omega) (by omega) (by omega) (by omega) (by omega) hD (Hn := ((3 * (a + b) + b : Nat) : Int)) (by omega)
      obtain ⟨f', k1, _⟩ := fin_hue f (by omega) (by omega) l1 l2 (by omega) (by omega) (fun k => by omega)
      exact ⟨f', k1 (by omega)⟩
  | 4, _ =>
    rw [show col3 4 a b = (b, 0, a + b) from rfl]
    dsimp only
    rw [hueF_q hq (M := w + a + b) (m := w) (by omega) (by omega) (by omega) (by omega) (by omega) (by omega) (by omega) (by omega), if_neg (by omega), if_neg (by omega)]
    obtain ⟨f, l1, l2⟩ := hueO hq (M := w + a + b) (m := w) (y := w + b) (z := w + 0) c4 four_val (by omega) hw (by omega) (by omega) (by omega) (by omega) (by omega) hD (Hn := ((4 * (a + b) + b : Nat) : Int)) (by omega)
    obtain ⟨f', k1, _⟩ := fin_hue f (by omega) (by omega) l1 l2 (by omega) (by omega) (fun k => by omega)
    exact ⟨f', k1 (by omega)⟩
  | 5, _ =>
    rw [show col3 5 a b = (a + b, 0, a) from rfl]
    dsimp only
    rw [hueF_q hq (M := w + a + b) (m := w) (by omega) (by omega) (by omega) (by omega) (by omega) (by omega) (by omega) (by omega), if_pos (by omega)]
    obtain ⟨f, l1, l2, l3⟩ := hueR hq (M := w + a + b) (m := w) (y := w + 0) (z := w + a) hw (by omega) (by omega) (by omega) (by omega) (by omega) hD (Hn := -(a : Int)) (by omega)
    obtain ⟨f', _, k2⟩ := fin_hue f (by omega) (by omega) l1 l2 (by omega) (by omega) l3
    have := k2 (by omega)
    rw [show -(a : Int) + 6 * ((a + b : Nat) : Int) = ((5 * (a + b) + b : Nat) : Int) by omega] at this
    exact ⟨f', this⟩
end
end Mine
end PartMS
section PartMT
open PySem PySem.W PyProof.Rows PySem.Flt
namespace Mine
open PySem.Float64 (val sgn V pack infMag)
section
variable {q q' : Int → UInt64} {u u' : Nat} (hq : Lays q u) (hq' : Lays q' u') {M m x M' m' x' k n d : Nat}
include hq hq'
theorem rat_eq (hM : M ≤ 4096) (hM' : M' ≤ 4096) (hk : 1 ≤ k) (hd : 1 ≤ d) (hx : x ≤ M) (hm : m ≤ M) (hx' : x' ≤ M') (hm' : m' ≤ M') (hnd : n ≤ d) (h1 : M - x = k * n) (h1' : M' - x' = n) (h2 : M - m = k * d) (h2' : M' - m' = d) : rat q M m x = rat q' M' m' x' := by
  have x1 := (hq.ex M hM).sub (hq.ex x (by omega)) hx (by omega) hq.lo hq.hi
  have x2 := (hq.ex M hM).sub (hq.ex m (by omega)) hm (by omega) hq.lo hq.hi
  have y1 := (hq'.ex M' hM').sub (hq'.ex x' (by omega)) hx' (by omega) hq'.lo hq'.hi
  have y2 := (hq'.ex M' hM').sub (hq'.ex m' (by omega)) hm' (by omega) hq'.lo hq'.hi
  rw [h1] at x1
  rw [h2] at x2
  rw [h1'] at y1
  rw [h2'] at y2
  exact Ex.div_eq x1 x2 y1 y2 (Nat.mul_le_mul_left _ hnd) (Nat.mul_pos hk hd) hnd hd (by ac_rfl)
end
section
variable {q q' : Int → UInt64} {u u' : Nat} (hq : Lays q u) (hq' : Lays q' u') {w s a b k : Nat}
include hq hq'
theorem hue_same (hs : s < 6) (ha : 1 ≤ a) (hk : 1 ≤ k) (hw : w + k * a + k * b ≤ 4096) (hw' : a + b ≤ 4096) : hueW q w s (k * a) (k * b) = hueW q' 0 s a b := by
  unfold hueW
  have hka : 1 ≤ k * a := Nat.mul_pos hk ha
  have hkb : b = 0 ↔ k * b = 0 := ⟨fun e => by rw [e, Nat.mul_zero], fun e => by
    rcases Nat.mul_eq_zero.mp e with h | h
    · omega
    · exact h⟩
  have hd : k * (a + b) = k * a + k * b := Nat.mul_add _ _ _
  have R : ∀ {x x' n : Nat}, x ≤ w + k * a + k * b → x' ≤ 0 + a + b → n ≤ a + b → (w + k * a + k * b) - x = k * n → (0 + a + b) - x' = n → rat q (w + k * a + k * b) w x = rat q' (0 + a + b) 0 x' := fun h1 h2 h3 h4 h5 =>
    rat_eq hq hq' hw (by omega) hk (d := a + b) (by omega) h1 (by omega) h2 (by omega) h3 h4 h5 (by omega) (by omega)
  have R0 : ∀ {x x' : Nat}, x = w + k * a + k * b → x' = 0 + a + b → rat q (w + k * a + k * b) w x = rat q' (0 + a + b) 0 x' := fun h1 h2 => R (n := 0) (by omega) (by omega) (by omega) (by rw [Nat.mul_zero]; omega) (by omega)
  have RD : ∀ {x x' : Nat}, x = w → x' = 0 → rat q (w + k * a + k * b) w x = rat q' (0 + a + b) 0 x' := fun h1 h2 => R (n := a + b) (by omega) (by omega) (by omega) (by omega) (by omega)
  have RA : ∀ {x x' : Nat}, x = w + k * b → x' = 0 + b → rat q (w + k * a + k * b) w x = rat q' (0 + a + b) 0 x' := fun h1 h2 => R (n := a) (by omega) (by omega) (by omega) (by omega) (by omega)
  have RB : ∀ {x x' : Nat}, x = w + k * a → x' = 0 + a → rat q (w + k * a + k * b) w x = rat q' (0 + a + b) 0 x' := fun h1 h2 => R (n := b) (by omega) (by omega) (by omega) (by omega) (by omega)
  match s, hs with
  | 0, _ =>
    rw [show col3 0 (k * a) (k * b) = (k * a + k * b, k * b, 0) from rfl, show col3 0 a b = (a + b, b, 0) from rfl]
    dsimp only
    rw [hueF_q hq (M := w + k * a + k * b) (m := w) (by omega) (by omega) (by omega) (by omega) (by omega) (by omega) (by omega) (by omega), hueF_q hq' (M := 0 + a + b) (m := 0) (by omega) (by omega) (by omega) (by omega) (by omega) (by omega) (by omega) (by omega), if_pos (by omega), if_pos (by omega),
      RD (x := w + 0) (x' := 0 + 0) (by omega) (by omega), RA (x := w + k * b) (x' := 0 + b) rfl rfl]
  | 1, _ =>
    rw [show col3 1 (k * a) (k * b) = (k * a, k * a + k * b, 0) from rfl, show col3 1 a b = (a, a + b, 0) from rfl]
    dsimp only
    rw [hueF_q hq (M := w + k * a + k * b) (m := w) (by omega) (by omega) (by omega) (by omega) (by omega) (by omega) (by omega) (by omega), hueF_q hq' (M := 0 + a + b) (m := 0) (by omega) (by omega) (by omega) (by omega) (by omega) (by omega) (by omega) (by omega)]
    by_cases h0 : b = 0
    · have := hkb.mp h0
      rw [if_pos (by omega), if_pos (by omega), RD (x := w + 0) (x' := 0 + 0) (by omega) (by omega), R0 (x := w + (k * a + k * b)) (x' := 0 + (a + b)) (by omega) (by omega)]
    · have : k * b ≠ 0 := fun e => h0 (hkb.mpr e)
      rw [if_neg (by omega), if_pos (by omega), if_neg (by omega), if_pos (by omega), RB (x := w + k * a) (x' := 0 + a) rfl rfl, RD (x := w + 0) (x' := 0 + 0) (by omega) (by omega)]
  | 2, _ =>
    rw [show col3 2 (k * a) (k * b) = (0, k * a + k * b, k * b) from rfl, show col3 2 a b = (0, a + b, b) from rfl]
    dsimp only
    rw [hueF_q hq (M := w + k * a + k * b) (m := w) (by omega) (by omega) (by omega) (by omega) (by omega) (by omega) (by omega) (by omega), hueF_q hq' (M := 0 + a + b) (m := 0) (by omega) (by omega) (by omega) (by omega) (by omega) (by omega) (by omega) (by omega),
      if_neg (by omega), if_pos (by omega), if_neg (by omega), if_pos (by omega), RD (x := w + 0) (x' := 0 + 0) (by omega) (by omega), RA (x := w + k * b) (x' := 0 + b) rfl rfl]
  | 3, _ =>
    rw [show col3 3 (k * a) (k * b) = (0, k * a, k * a + k * b) from rfl, show col3 3 a b = (0, a, a + b) from rfl]
    dsimp only
    rw [hueF_q hq (M := w + k * a + k * b) (m := w) (by omega) (by omega) (by omega) (by omega) (by omega) (by omega) (by omega) (by omega), hueF_q hq' (M := 0 + a + b) (m := 0) (by omega) (by omega) (by omega) (by omega) (by omega) (by omega) (by omega) (by omega),
      if_neg (by omega)]
    by_cases h0 : b = 0
    · have := hkb.mp h0
      rw [if_pos (by omega), if_neg (by omega), if_pos (by omega), RD (x := w + 0) (x' := 0 + 0) (by omega) (by omega), R0 (x := w + (k * a + k * b)) (x' := 0 + (a + b)) (by omega) (by omega)]
    · have : k * b ≠ 0 := fun e => h0 (hkb.mpr e)
      rw [if_neg (by omega), if_neg (by omega), if_neg (by omega), RB (x := w + k * a) (x' := 0 + a) rfl rfl, RD (x := w + 0) (x' := 0 + 0) (by omega) (by omega)]
  | 4, _ =>
    rw [show col3 4 (k * a) (k * b) = (k * b, 0, k * a + k * b) from rfl, show col3 4 a b = (b, 0, a + b) from rfl]
    dsimp only
    rw [hueF_q hq (M := w + k * a + k * b) (m := w) (by omega) (by omega) (by omega) (by omega) (by omega) (by omega) (by omega) (by omega), hueF_q hq' (M := 0 + a + b) (m := 0) (by omega) (by omega) (by omega) (by omega) (by omega) (by omega) (by omega) (by omega),
      if_neg (by omega), if_neg (by omega), if_neg (by omega), if_neg (by omega), RD (x := w + 0) (x' := 0 + 0) (by omega) (by omega), RA (x := w + k * b) (x' := 0 + b) rfl rfl]
  | 5, _ =>
    rw [show col3 5 (k * a) (k * b) = (k * a + k * b, 0, k * a) from rfl, show col3 5 a b = (a + b, 0, a) from rfl]
    dsimp only
    rw [hueF_q hq (M := w + k * a + k * b) (m := w) (by omega) (by omega) (by omega) (by omega) (by omega) (by omega) (by omega) (by omega), hueF_q hq' (M := 0 + a + b) (m := 0) (by omega) (by omega) (by omega) (by omega) (by omega) (by omega) (by omega) (by omega),
      if_pos (by omega), if_pos (by omega), RB (x := w + k * a) (x' := 0 + a) rfl rfl, RD (x := w + 0) (x' := 0 + 0) (by omega) (by omega)]
end
/-- the order of the hues by whole numbers -/
def HLt (s a b s' a' b' : Nat) : Prop := (s * (a + b) + b) * (a' + b') < (s' * (a' + b') + b') * (a + b)
theorem near_lt {k k' : Int} {s a b s' a' b' : Nat} (h : NearHue k s a b) (h' : NearHue k' s' a' b') (hD : 1 ≤ a + b) (hD2 : a + b ≤ 4096) (hD' : 1 ≤ a' + b') (hD2' : a' + b' ≤ 4096) (hlt : HLt s a b s' a' b') : k < k' := by
  unfold NearHue at h h'
  unfold HLt at hlt
  generalize a + b = D at *
  generalize a' + b' = D' at *
  generalize s * D + b = N at *
  generalize s' * D' + b' = N' at *
  have hE := eps_pos
  have h1 : (D' : Int) * (6 * ((D : Int) * k) - (N : Int) * (2 ^ 50 * eps)) ≤ (D' : Int) * (16 * ((D : Int) * eps)) := Int.mul_le_mul_of_nonneg_left h.2 (by omega)
  have h2 : (D : Int) * (-(16 * ((D' : Int) * eps))) ≤ (D : Int) * (6 * ((D' : Int) * k') - (N' : Int) * (2 ^ 50 * eps)) := Int.mul_le_mul_of_nonneg_left h'.1 (by omega)
  refine Int.not_le.mp fun q => ?_
  have h3 : ((D : Int) * (D' : Int)) * k' ≤ ((D : Int) * (D' : Int)) * k := Int.mul_le_mul_of_nonneg_left q (Int.mul_nonneg (by omega) (by omega))
  have h4 : ((N : Int) * D' + 1) * (2 ^ 50 * (eps : Int)) ≤ ((N' : Int) * D) * (2 ^ 50 * eps) := Int.mul_le_mul_of_nonneg_right (by
    have : N * D' + 1 ≤ N' * D := hlt
    have := Int.ofNat_le.mpr this
    simpa using this) (by omega)
  have h5 : (D : Int) * (D' : Int) ≤ 4096 * 4096 := Int.mul_le_mul (by omega) (by omega) (by omega) (by omega)
  have h6 : ((D : Int) * (D' : Int)) * eps ≤ 4096 * 4096 * eps := Int.mul_le_mul_of_nonneg_right h5 (by omega)
  have e1 : (D' : Int) * (6 * ((D : Int) * k) - (N : Int) * (2 ^ 50 * eps)) = 6 * (((D : Int) * D') * k) - ((N : Int) * D') * (2 ^ 50 * eps) := by
    rw [Int.mul_sub]
    congr 1
    · ac_rfl
    · ac_rfl
  have e2 : (D : Int) * (6 * ((D' : Int) * k') - (N' : Int) * (2 ^ 50 * eps)) = 6 * (((D : Int) * D') * k') - ((N' : Int) * D) * (2 ^ 50 * eps) := by
    rw [Int.mul_sub]
    congr 1
    · ac_rfl
    · ac_rfl
  have e3 : (D' : Int) * (16 * ((D : Int) * eps)) = 16 * (((D : Int) * D') * eps) := by ac_rfl
  have e4 : (D : Int) * (-(16 * ((D' : Int) * eps))) = -(16 * (((D : Int) * D') * eps)) := by
    rw [Int.mul_neg]
    congr 1
    ac_rfl
  rw [e1, e3] at h1
  rw [e2, e4] at h2
  rw [Int.add_mul] at h4
  generalize ((D : Int) * (D' : Int)) * k' = A at *
  generalize ((D : Int) * (D' : Int)) * k = B at *
  generalize ((D : Int) * (D' : Int)) * (eps : Int) = C at *
  generalize (N : Int) * D' * (2 ^ 50 * (eps : Int)) = P at *
  generalize (N' : Int) * D * (2 ^ 50 * (eps : Int)) = R at *
  omega
end Mine
end PartMT
section PartMP
open PySem PySem.W PyProof.Rows PySem.Flt
namespace Mine
open PySem.Float64 (val sgn V pack infMag)
def corners : List Col := [(1, 0, 0), (1, 1, 0), (0, 1, 0), (0, 1, 1), (0, 0, 1), (1, 0, 1)]
def addC (p q : Col) : Col := (p.1 + q.1, p.2.1 + q.2.1, p.2.2 + q.2.2)
def putL {α : Type} (l : List α) (p : Nat) (c : α) : List α := l.take (p + 1) ++ c :: l.drop (p + 1)
abbrev putC (cols : List Col) (p : Nat) (c : Col) : List Col := cols.take (p + 1) ++ c :: cols.drop (p + 1)
abbrev Cell := Nat × Nat × Nat
def colS (s a b : Nat) : Col := (((col3 s a b).1 : Int), ((col3 s a b).2.1 : Int), ((col3 s a b).2.2 : Int))
def colOf (c : Cell) : Col := colS c.1 c.2.1 c.2.2
def Adj (c c' : Cell) : Prop := (c'.1 = c.1 ∧ c.2.1 * c'.2.2 = c'.2.1 * c.2.2 + 1) ∨ (c'.1 = c.1 + 1 ∧ c'.2.1 = 1 ∧ c'.2.2 = 0 ∧ c.2.1 = 1)
def OkCell (k : Nat) (c : Cell) : Prop := c.1 < 6 ∧ 1 ≤ c.2.1 ∧ c.2.1 + c.2.2 ≤ 2 ^ k
structure Cells (k : Nat) (cells : List Cell) : Prop where
  len : cells.length = 6 + k
  ok : ∀ (i : Nat) c, cells[i]? = some c → OkCell k c
  head : cells[0]? = some (0, 1, 0)
  adj : ∀ (i : Nat) c c', cells[i]? = some c → cells[i + 1]? = some c' → Adj c c'
  last : ∀ c, cells[5 + k]? = some c → c.1 = 5 ∧ c.2.1 = 1
def Wheel (k : Nat) (cols : List Col) : Prop := ∃ cells, cols = cells.map colOf ∧ Cells k cells
theorem wheel_init : Wheel 0 corners := by
  refine ⟨[(0, 1, 0), (1, 1, 0), (2, 1, 0), (3, 1, 0), (4, 1, 0), (5, 1, 0)], rfl, rfl, ?_, rfl, ?_, ?_⟩
  · intro i c e
    have : i < 6 := (List.getElem?_eq_some_iff.mp e).1
    match i, this with
    | 0, _ => cases e; exact ⟨by decide, by decide, by decide⟩
    | 1, _ => cases e; exact ⟨by decide, by decide, by decide⟩
    | 2, _ => cases e; exact ⟨by decide, by decide, by decide⟩
    | 3, _ => cases e; exact ⟨by decide, by decide, by decide⟩
    | 4, _ => cases e; exact ⟨by decide, by decide, by decide⟩
    | 5, _ => cases e; exact ⟨by decide, by decide, by decide⟩
  · intro i c c' e e'
    have : i + 1 < 6 := (List.getElem?_eq_some_iff.mp e').1
    match i, this with
    | 0, _ => cases e; cases e'; exact .inr ⟨rfl, rfl, rfl, rfl⟩
    | 1, _ => cases e; cases e'; exact .inr ⟨rfl, rfl, rfl, rfl⟩
    | 2, _ => cases e; cases e'; exact .inr ⟨rfl, rfl, rfl, rfl⟩
    | 3, _ => cases e; cases e'; exact .inr ⟨rfl, rfl, rfl, rfl⟩
    | 4, _ => cases e; cases e'; exact .inr ⟨rfl, rfl, rfl, rfl⟩
  · intro c e
    cases e
    exact ⟨rfl, rfl⟩
theorem wheel_len {k : Nat} {cols : List Col} (h : Wheel k cols) : cols.length = 6 + k := by
  obtain ⟨cells, rfl, hc⟩ := h
  rw [List.length_map, hc.len]
/-- the hue's key -/
def key (c : Cell) : UInt64 := hueK (colOf c)
theorem key_eq (c : Cell) : key c = hueW q4096 0 c.1 c.2.1 c.2.2 := by
  unfold key hueK hueC hueW colOf colS
  simp only [Nat.zero_add]
theorem key_near {c : Cell} (h1 : c.1 < 6) (h2 : 1 ≤ c.2.1) (h3 : c.2.1 + c.2.2 ≤ 4096) : FinF (key c) ∧ NearHue (val (key c)) c.1 c.2.1 c.2.2 := by
  rw [key_eq]
  exact hue_near lays_4096 h1 h2 (by omega)
theorem cmp_lt {x y : UInt64} (hx : FinF x) (hy : FinF y) : (Float64.cmp x y == some Ordering.lt) = decide (val x < val y) := by
  obtain ⟨a, m, e, dx⟩ := hx
  obtain ⟨b, k, f, dy⟩ := hy
  rw [PySem.Float64.cmp_right dx dy]
  rcases Int.lt_trichotomy (val x) (val y) with h | h | h
  · rw [Int.compare_eq_lt.mpr h, decide_eq_true h]; rfl
  · rw [h]; simp
  · rw [Int.compare_eq_gt.mpr h, decide_eq_false (by omega)]; rfl
theorem pow_k {k : Nat} (h : k ≤ 9) : 2 ^ k ≤ 512 := Nat.pow_le_pow_right (n := 2) (by decide) h
theorem good_cell {c : Cell} (h1 : c.1 < 6) (h2 : 1 ≤ c.2.1) (h3 : c.2.1 + c.2.2 ≤ 4096) : GoodCol (colOf c) := by
  obtain ⟨s, a, b⟩ := c
  dsimp only at h1 h2 h3
  have core : ∀ r g bl : Nat, r ≤ a + b → g ≤ a + b → bl ≤ a + b → (a + b = r ∨ a + b = g ∨ a + b = bl) → (0 = r ∨ 0 = g ∨ 0 = bl) → GoodCol ((r : Int), (g : Int), (bl : Int)) := by
    intro r g bl hr hg hb hM hm
    refine ⟨by dsimp only; omega, by dsimp only; omega, by dsimp only; omega, fun _ => ?_⟩
    dsimp only
    rw [max3_q lays_4096 (M := a + b) (by omega) (by omega) (by omega) (by omega) hM, min3_q lays_4096 (m := 0) (by omega) (by omega) (by omega) (by omega) hm]
    exact ⟨(q4096_ex (a + b) (by omega)).zero (by omega), ((q4096_ex (a + b) (by omega)).sub (q4096_ex 0 (by omega)) (by omega) (by omega) (by decide) (by decide)).zero (by omega)⟩
  show GoodCol (colS s a b)
  unfold colS
  match s, h1 with
  | 0, _ => exact core (a + b) b 0 (by omega) (by omega) (by omega) (by omega) (by omega)
  | 1, _ => exact core a (a + b) 0 (by omega) (by omega) (by omega) (by omega) (by omega)
  | 2, _ => exact core 0 (a + b) b (by omega) (by omega) (by omega) (by omega) (by omega)
  | 3, _ => exact core 0 a (a + b) (by omega) (by omega) (by omega) (by omega) (by omega)
  | 4, _ => exact core b 0 (a + b) (by omega) (by omega) (by omega) (by omega) (by omega)
  | 5, _ => exact core (a + b) 0 a (by omega) (by omega) (by omega) (by omega) (by omega)
theorem wheel_good {k : Nat} {cols : List Col} (h : Wheel k cols) (hk : k ≤ 9) : ∀ c ∈ cols, GoodCol c := by
  obtain ⟨cells, rfl, hc⟩ := h
  intro c hm
  obtain ⟨cell, hcell, rfl⟩ := List.mem_map.mp hm
  obtain ⟨i, hi⟩ := List.mem_iff_getElem?.mp hcell
  obtain ⟨h1, h2, h3⟩ := hc.ok i cell hi
  have := pow_k hk
  exact good_cell h1 h2 (by omega)
theorem hls_ok {ar ag ab : Int} (h1 : 0 ≤ ar ∧ ar ≤ 8) (h2 : 0 ≤ ag ∧ ag ≤ 8) (h3 : 0 ≤ ab ∧ ab ≤ 8) : HlsOk (q8 ar) (q8 ag) (q8 ab) := by
  obtain ⟨r, rfl⟩ := Int.eq_ofNat_of_zero_le h1.1
  obtain ⟨g, rfl⟩ := Int.eq_ofNat_of_zero_le h2.1
  obtain ⟨b, rfl⟩ := Int.eq_ofNat_of_zero_le h3.1
  have hr : r ≤ 8 := by omega
  have hg : g ≤ 8 := by omega
  have hb : b ≤ 8 := by omega
  obtain ⟨M, m1, m2⟩ : ∃ M : Nat, (r ≤ M ∧ g ≤ M ∧ b ≤ M) ∧ (M = r ∨ M = g ∨ M = b) := ⟨max r (max g b), by omega, by omega⟩
  obtain ⟨m, n1, n2⟩ : ∃ m : Nat, (m ≤ r ∧ m ≤ g ∧ m ≤ b) ∧ (m = r ∨ m = g ∨ m = b) := ⟨min r (min g b), by omega, by omega⟩
  unfold HlsOk
  rw [max3_q lays_8 (by omega) (by omega) (by omega) m1 m2, min3_q lays_8 (by omega) (by omega) (by omega) n1 n2]
  have xM := q8_ex M (by omega)
  have xm := q8_ex m (by omega)
  rw [xm.eq xM]
  intro h
  have hne : m ≠ M := of_decide_eq_false h
  have x2 : Ex 4611686018427387904 16 1071 := ⟨4611686018427387904, by decide +kernel, by decide +kernel, by decide +kernel⟩
  refine ⟨(xM.sub xm (by omega) (by omega) (by decide) (by decide)).zero (by omega), (xM.add xm (by omega) (by decide) (by decide)).zero (by omega), ?_⟩
  exact ((x2.sub xM (by omega) (by omega) (by decide) (by decide)).sub xm (by omega) (by omega) (by decide) (by decide)).zero (by omega)

theorem put_get {α : Type} {l : List α} {p : Nat} {x : α} (hp : p < l.length) (i : Nat) : (l.take (p + 1) ++ x :: l.drop (p + 1))[i]? = if i < p + 1 then l[i]? else if i = p + 1 then some x else l[i - 1]? := by
  rw [List.getElem?_append]
  have l1 : (l.take (p + 1)).length = p + 1 := by rw [List.length_take]; omega
  rw [l1]
  by_cases h : i < p + 1
  · rw [if_pos h, if_pos h, List.getElem?_take, if_pos h]
  · rw [if_neg h, if_neg h]
    by_cases h2 : i = p + 1
    · rw [if_pos h2, h2, Nat.sub_self]; rfl
    · rw [if_neg h2]
      obtain ⟨j, hj⟩ : ∃ j, i - (p + 1) = j + 1 := ⟨i - (p + 1) - 1, by omega⟩
      rw [hj, List.getElem?_cons_succ, List.getElem?_drop]
      congr 1
      omega
theorem hlt_same {s a b a' b' : Nat} (h : a * b' = a' * b + 1) : HLt s a b s a' b' := by
  unfold HLt
  have e1 : (s * (a + b) + b) * (a' + b') = s * ((a + b) * (a' + b')) + (a' * b + b * b') := by
    rw [Nat.add_mul, Nat.mul_assoc, Nat.mul_add b, Nat.mul_comm b a']
  have e2 : (s * (a' + b') + b') * (a + b) = s * ((a + b) * (a' + b')) + (a * b' + b * b') := by
    rw [Nat.add_mul, Nat.mul_assoc, Nat.mul_comm (a' + b'), Nat.mul_add b', Nat.mul_comm b' a, Nat.mul_comm b' b]
  rw [e1, e2]
  omega
theorem hlt_up {s a b s' a' b' : Nat} (h : s < s') (ha : 1 ≤ a) (hD : 1 ≤ a' + b') : HLt s a b s' a' b' := by
  unfold HLt
  have h1 : s * (a + b) + b < (s + 1) * (a + b) := by rw [Nat.add_mul]; omega
  have h2 : (s + 1) * (a + b) ≤ s' * (a + b) := Nat.mul_le_mul_right _ h
  have h3 : (s * (a + b) + b) * (a' + b') < (s' * (a + b)) * (a' + b') := Nat.mul_lt_mul_of_pos_right (by omega) hD
  have h4 : (s' * (a + b)) * (a' + b') = (s' * (a' + b')) * (a + b) := by ac_rfl
  have h5 : (s' * (a' + b')) * (a + b) ≤ (s' * (a' + b') + b') * (a + b) := Nat.mul_le_mul_right _ (by omega)
  omega
theorem key_lt {c c' : Cell} {k : Nat} (hk : k ≤ 9) (h : OkCell k c) (h' : OkCell k c') (hl : HLt c.1 c.2.1 c.2.2 c'.1 c'.2.1 c'.2.2) : val (key c) < val (key c') := by
  have := pow_k hk
  obtain ⟨h1, h2, h3⟩ := h
  obtain ⟨g1, g2, g3⟩ := h'
  exact near_lt (key_near h1 h2 (by omega)).2 (key_near g1 g2 (by omega)).2 (by omega) (by omega) (by omega) (by omega) hl
theorem adj_hlt {c c' : Cell} (ha : 1 ≤ c.2.1) (h : Adj c c') : HLt c.1 c.2.1 c.2.2 c'.1 c'.2.1 c'.2.2 := by
  rcases h with ⟨e, h⟩ | ⟨e, h1, h2, _⟩
  · rw [e]; exact hlt_same h
  · rw [e]; exact hlt_up (by omega) ha (by omega)
theorem Cells.mono {k : Nat} {cells : List Cell} (hc : Cells k cells) (hk : k ≤ 9) : ∀ (d i : Nat) (c c' : Cell), cells[i]? = some c → cells[i + d + 1]? = some c' → val (key c) < val (key c') := by
  intro d
  induction d with
  | zero =>
    intro i c c' e e'
    have h1 := hc.ok i c e
    exact key_lt hk h1 (hc.ok _ c' e') (adj_hlt h1.2.1 (hc.adj i c c' e e'))
  | succ d ih =>
    intro i c c' e e'
    have hlt : i + d + 1 < cells.length := by have := (List.getElem?_eq_some_iff.mp e').1; omega
    have em : cells[i + d + 1]? = some cells[i + d + 1] := by simp [hlt]
    have h1 := ih i c _ e em
    have h2 := hc.ok _ _ em
    have h3 := key_lt hk h2 (hc.ok _ c' e') (adj_hlt h2.2.1 (hc.adj (i + d + 1) _ c' em e'))
    omega
theorem Cells.lt {k : Nat} {cells : List Cell} (hc : Cells k cells) (hk : k ≤ 9) {i j : Nat} {c c' : Cell} (hij : i < j) (e : cells[i]? = some c) (e' : cells[j]? = some c') : val (key c) < val (key c') :=
  hc.mono hk (j - i - 1) i c c' e (by rw [show i + (j - i - 1) + 1 = j by omega]; exact e')
theorem Cells.le {k : Nat} {cells : List Cell} (hc : Cells k cells) (hk : k ≤ 9) {i j : Nat} {c c' : Cell} (hij : i ≤ j) (e : cells[i]? = some c) (e' : cells[j]? = some c') : val (key c) ≤ val (key c') := by
  rcases Nat.lt_or_eq_of_le hij with h | h
  · exact Int.le_of_lt (hc.lt hk h e e')
  · subst h
    rw [e] at e'
    cases e'
    exact Int.le_refl _
theorem colS_add {s a b a' b' : Nat} (hs : s < 6) : colS s (a + a') (b + b') = addC (colS s a b) (colS s a' b') := by
  unfold colS addC
  match s, hs with
  | 0, _ => simp only [col3, Prod.mk.injEq]; omega
  | 1, _ => simp only [col3, Prod.mk.injEq]; omega
  | 2, _ => simp only [col3, Prod.mk.injEq]; omega
  | 3, _ => simp only [col3, Prod.mk.injEq]; omega
  | 4, _ => simp only [col3, Prod.mk.injEq]; omega
  | 5, _ => simp only [col3, Prod.mk.injEq]; omega
theorem colS_next {s : Nat} (hs : s < 5) : colS (s + 1) 1 0 = colS s 0 1 := by
  match s, hs with
  | 0, _ => rfl
  | 1, _ => rfl
  | 2, _ => rfl
  | 3, _ => rfl
  | 4, _ => rfl
/-- the colour behind a cell, by the cell's own two corners -/
theorem Cells.next {k p : Nat} {cells : List Cell} {c c₂ : Cell} (hc : Cells k cells) (e : cells[p]? = some c) (e₂ : cells[(p + 1) % cells.length]? = some c₂) :
    ∃ a₂ b₂ : Nat, colOf c₂ = colS c.1 a₂ b₂ ∧ c.2.1 * b₂ = a₂ * c.2.2 + 1 ∧ 1 ≤ a₂ + b₂ ∧ a₂ + b₂ ≤ 2 ^ k ∧ (p + 1 < cells.length → cells[p + 1]? = some c₂ ∧ ((c₂.1 = c.1 ∧ a₂ = c₂.2.1 ∧ b₂ = c₂.2.2) ∨ (c₂ = (c.1 + 1, 1, 0) ∧ a₂ = 0 ∧ b₂ = 1 ∧ c.2.1 = 1))) ∧
      (p + 1 = cells.length → c.1 = 5 ∧ c.2.1 = 1 ∧ a₂ = 0 ∧ b₂ = 1) := by
  have hp : p < cells.length := (List.getElem?_eq_some_iff.mp e).1
  have hlen := hc.len
  have h1k : 1 ≤ 2 ^ k := Nat.one_le_two_pow
  by_cases hl : p + 1 < cells.length
  · rw [Nat.mod_eq_of_lt hl] at e₂
    have hok := hc.ok _ _ e
    have hok2 := hc.ok _ _ e₂
    rcases hc.adj p c c₂ e e₂ with ⟨h1, h2⟩ | ⟨h1, h2, h3, h4⟩
    · exact ⟨c₂.2.1, c₂.2.2, by unfold colOf; rw [h1], h2, by have := hok2.2.1; omega, hok2.2.2, fun _ => ⟨e₂, .inl ⟨h1, rfl, rfl⟩⟩, fun h => by omega⟩
    · have hc2 : c₂ = (c.1 + 1, 1, 0) := by obtain ⟨x, y, z⟩ := c₂; dsimp only at h1 h2 h3; subst h1 h2 h3; rfl
      have := hok2.1
      exact ⟨0, 1, by rw [hc2]; exact colS_next (by omega), by omega, by omega, by omega, fun _ => ⟨e₂, .inr ⟨hc2, rfl, rfl, h4⟩⟩, fun h => by omega⟩
  · have hpl : p + 1 = cells.length := by omega
    rw [hpl, Nat.mod_self, hc.head] at e₂
    cases e₂
    have e5 : cells[5 + k]? = some c := by rw [show 5 + k = p by omega]; exact e
    obtain ⟨h1, h2⟩ := hc.last c e5
    exact ⟨0, 1, by rw [h1]; rfl, by omega, by omega, by omega, fun h => by omega, fun _ => ⟨h1, h2, rfl, rfl⟩⟩
theorem wheel_mix {k p : Nat} {cols : List Col} {c₁ c₂ : Col} (h : Wheel k cols) (hk : k < 9) (e₁ : cols[p]? = some c₁) (e₂ : cols[(p + 1) % cols.length]? = some c₂) :
    GoodCol (addC c₁ c₂) ∧ Wheel (k + 1) (putC cols p (addC c₁ c₂)) ∧
    (∀ (j : Nat) (c : Col), cols[j]? = some c → (Float64.cmp (hueK (addC c₁ c₂)) (hueK c) == some Ordering.lt) = decide (p + 1 ≤ j)) ∧
    (∀ (j : Nat) (c : Col), cols[j]? = some c → (Float64.cmp (hueK c) (hueK (addC c₁ c₂)) == some Ordering.lt) = decide (j < p + 1)) := by
  obtain ⟨cells, rfl, hc⟩ := h
  rw [List.getElem?_map] at e₁ e₂
  rw [List.length_map] at e₂
  obtain ⟨d₁, x₁, rfl⟩ := Option.map_eq_some_iff.mp e₁
  obtain ⟨d₂, x₂, rfl⟩ := Option.map_eq_some_iff.mp e₂
  obtain ⟨a₂, b₂, n1, n2, n3, n4, n5, n6⟩ := hc.next x₁ x₂
  have hp : p < cells.length := (List.getElem?_eq_some_iff.mp x₁).1
  have hlen := hc.len
  obtain ⟨o1, o2, o3⟩ := hc.ok p d₁ x₁
  have hmixcol : addC (colOf d₁) (colOf d₂) = colOf (d₁.1, d₁.2.1 + a₂, d₁.2.2 + b₂) := by
    rw [n1]
    unfold colOf
    exact (colS_add o1).symm
  have hpow : 2 ^ (k + 1) = 2 ^ k + 2 ^ k := by rw [Nat.pow_succ]; omega
  have hpk := pow_k (k := k + 1) (by omega)
  have okm : OkCell (k + 1) (d₁.1, d₁.2.1 + a₂, d₁.2.2 + b₂) := ⟨o1, by dsimp only; omega, by dsimp only; omega⟩
  have up : ∀ {c : Cell}, OkCell k c → OkCell (k + 1) c := fun h => ⟨h.1, h.2.1, by have := h.2.2; omega⟩
  have adj1 : Adj d₁ (d₁.1, d₁.2.1 + a₂, d₁.2.2 + b₂) := .inl ⟨rfl, by dsimp only; rw [Nat.mul_add, Nat.add_mul, n2]; omega⟩
  have adj2 : p + 1 < cells.length → Adj (d₁.1, d₁.2.1 + a₂, d₁.2.2 + b₂) d₂ := fun hl => by
    rcases (n5 hl).2 with ⟨q1, q2, q3⟩ | ⟨q1, q2, q3, q4⟩
    · refine .inl ⟨q1, ?_⟩
      dsimp only
      rw [← q2, ← q3, Nat.add_mul, Nat.mul_add, n2]
      omega
    · refine .inr ?_
      rw [q1]
      exact ⟨rfl, rfl, rfl, by dsimp only; omega⟩
  have k1 : val (key d₁) < val (key (d₁.1, d₁.2.1 + a₂, d₁.2.2 + b₂)) := key_lt (k := k + 1) (by omega) (up ⟨o1, o2, o3⟩) okm (adj_hlt o2 adj1)
  have k2 : p + 1 < cells.length → val (key (d₁.1, d₁.2.1 + a₂, d₁.2.2 + b₂)) < val (key d₂) := fun hl => key_lt (k := k + 1) (by omega) okm (up (hc.ok _ _ (n5 hl).1)) (adj_hlt okm.2.1 (adj2 hl))
  have lo : ∀ (j : Nat) c, cells[j]? = some c → j < p + 1 → val (key c) < val (key (d₁.1, d₁.2.1 + a₂, d₁.2.2 + b₂)) := fun j c e hj => by
    have := hc.le (by omega) (i := j) (j := p) (by omega) e x₁
    omega
  have hi : ∀ (j : Nat) c, cells[j]? = some c → p + 1 ≤ j → val (key (d₁.1, d₁.2.1 + a₂, d₁.2.2 + b₂)) < val (key c) := fun j c e hj => by
    have hjl : j < cells.length := (List.getElem?_eq_some_iff.mp e).1
    have h1 := k2 (by omega)
    have := hc.le (by omega) (i := p + 1) (j := j) hj (n5 (by omega)).1 e
    omega
  have fm := (key_near (c := (d₁.1, d₁.2.1 + a₂, d₁.2.2 + b₂)) okm.1 okm.2.1 (by have := okm.2.2; omega)).1
  have fc : ∀ (j : Nat) c, cells[j]? = some c → FinF (key c) := fun j c e => by
    obtain ⟨g1, g2, g3⟩ := hc.ok j c e
    exact (key_near g1 g2 (by omega)).1
  rw [hmixcol]
  refine ⟨good_cell okm.1 okm.2.1 (by have := okm.2.2; omega), ⟨cells.take (p + 1) ++ (d₁.1, d₁.2.1 + a₂, d₁.2.2 + b₂) :: cells.drop (p + 1), ?_, ?_⟩, ?_, ?_⟩
  · rw [List.map_append, List.map_cons, List.map_take, List.map_drop]
  · have pg := put_get (x := (d₁.1, d₁.2.1 + a₂, d₁.2.2 + b₂)) hp
    refine ⟨?_, ?_, ?_, ?_, ?_⟩
    · rw [List.length_append, List.length_cons, List.length_take, List.length_drop]; omega
    · intro i c e
      rw [pg] at e
      split at e
      · exact up (hc.ok i c e)
      · split at e
        · cases e; exact okm
        · exact up (hc.ok _ c e)
    · rw [pg, if_pos (by omega)]; exact hc.head
    · intro i c c' e e'
      rw [pg] at e e'
      by_cases h1 : i + 1 < p + 1
      · rw [if_pos (by omega)] at e
        rw [if_pos h1] at e'
        exact hc.adj i c c' e e'
      · rw [if_neg h1] at e'
        by_cases h2 : i = p
        · subst h2
          rw [if_pos (by omega), x₁] at e
          rw [if_pos rfl] at e'
          cases e; cases e'
          exact adj1
        · rw [if_neg (by omega)] at e
          rw [if_neg (by omega)] at e'
          by_cases h3 : i = p + 1
          · subst h3
            rw [if_pos rfl] at e
            cases e
            have hl : p + 1 < cells.length := by have := (List.getElem?_eq_some_iff.mp e').1; omega
            rw [show p + 1 + 1 - 1 = p + 1 by omega, (n5 hl).1] at e'
            cases e'
            exact adj2 hl
          · rw [if_neg h3] at e
            exact hc.adj (i - 1) c c' e (by rw [show i - 1 + 1 = i + 1 - 1 by omega]; exact e')
    · intro c e
      rw [pg] at e
      by_cases h1 : 5 + (k + 1) = p + 1
      · rw [if_neg (by omega), if_pos h1] at e
        cases e
        obtain ⟨g1, g2, g3, g4⟩ := n6 (by omega)
        exact ⟨g1, by dsimp only; omega⟩
      · rw [if_neg (by omega), if_neg h1] at e
        exact hc.last c (by rw [show 5 + k = 5 + (k + 1) - 1 by omega]; exact e)
  · intro j c e
    rw [List.getElem?_map] at e
    obtain ⟨d, x, rfl⟩ := Option.map_eq_some_iff.mp e
    have q := cmp_lt fm (fc j d x)
    unfold key at q
    rw [q]
    by_cases hj : p + 1 ≤ j
    · rw [decide_eq_true hj]; exact decide_eq_true (hi j d x hj)
    · rw [decide_eq_false hj]; exact decide_eq_false (by have := lo j d x (by omega); unfold key at this; omega)
  · intro j c e
    rw [List.getElem?_map] at e
    obtain ⟨d, x, rfl⟩ := Option.map_eq_some_iff.mp e
    have q := cmp_lt (fc j d x) fm
    unfold key at q
    rw [q]
    by_cases hj : j < p + 1
    · rw [decide_eq_true hj]; exact decide_eq_true (lo j d x hj)
    · rw [decide_eq_false hj]; exact decide_eq_false (by have := hi j d x (by omega); unfold key at this; omega)
theorem ident1 {p q a b a₂ b₂ : Int} (h : a * b₂ = a₂ * b + 1) : (p * b₂ - q * a₂) * a + (a * q - b * p) * a₂ = p := by grind
theorem ident2 {p q a b a₂ b₂ : Int} (h : a * b₂ = a₂ * b + 1) : (p * b₂ - q * a₂) * b + (a * q - b * p) * b₂ = q := by grind
theorem cross_ask {s w p q a b : Nat} (hs : s < 6) : cross (((w + (col3 s p q).1 : Nat) : Int), ((w + (col3 s p q).2.1 : Nat) : Int), ((w + (col3 s p q).2.2 : Nat) : Int)) (colS s a b) = (p : Int) * b - q * a := by
  unfold cross colS
  match s, hs with
  | 0, _ => simp only [col3]; grind
  | 1, _ => simp only [col3]; grind
  | 2, _ => simp only [col3]; grind
  | 3, _ => simp only [col3]; grind
  | 4, _ => simp only [col3]; grind
  | 5, _ => simp only [col3]; grind
theorem cross_near {s w p q a b : Nat} (hs : s < 6) : cross (colS s a b) (((w + (col3 s p q).1 : Nat) : Int), ((w + (col3 s p q).2.1 : Nat) : Int), ((w + (col3 s p q).2.2 : Nat) : Int)) = (a : Int) * q - b * p := by
  unfold cross colS
  match s, hs with
  | 0, _ => simp only [col3]; grind
  | 1, _ => simp only [col3]; grind
  | 2, _ => simp only [col3]; grind
  | 3, _ => simp only [col3]; grind
  | 4, _ => simp only [col3]; grind
  | 5, _ => simp only [col3]; grind

theorem last_with {n : Nat} (P : Nat → Prop) (h0 : P 0) (hn : 0 < n) : ∃ i, i < n ∧ P i ∧ ∀ j, i < j → j < n → ¬ P j := by
  induction n with
  | zero => omega
  | succ n ih =>
    by_cases hp : P n
    · exact ⟨n, by omega, hp, fun j a b => by omega⟩
    · have hn' : 0 < n := by
        rcases Nat.eq_zero_or_pos n with h | h
        · subst h; exact absurd h0 hp
        · exact h
      obtain ⟨i, a, b, c⟩ := ih hn'
      refine ⟨i, by omega, b, fun j x y => ?_⟩
      by_cases e : j = n
      · subst e; exact hp
      · exact c j x (by omega)
theorem dec3 {r g b : Nat} (h : ¬ (r = g ∧ g = b)) : ∃ w s p q : Nat, s < 6 ∧ 1 ≤ p ∧ r = w + (col3 s p q).1 ∧ g = w + (col3 s p q).2.1 ∧ b = w + (col3 s p q).2.2 ∧ (w + p + q = r ∨ w + p + q = g ∨ w + p + q = b) ∧ (w = r ∨ w = g ∨ w = b) := by
  by_cases h0 : g < r ∧ b ≤ g
  · exact ⟨b, 0, r - g, g - b, by omega, by omega, by simp only [col3]; omega, by simp only [col3]; omega, by simp only [col3]; omega, by omega, by omega⟩
  by_cases h1 : r ≤ g ∧ b < r
  · exact ⟨b, 1, r - b, g - r, by omega, by omega, by simp only [col3]; omega, by simp only [col3]; omega, by simp only [col3]; omega, by omega, by omega⟩
  by_cases h2 : b < g ∧ r ≤ b
  · exact ⟨r, 2, g - b, b - r, by omega, by omega, by simp only [col3]; omega, by simp only [col3]; omega, by simp only [col3]; omega, by omega, by omega⟩
  by_cases h3 : g ≤ b ∧ r < g
  · exact ⟨r, 3, g - r, b - g, by omega, by omega, by simp only [col3]; omega, by simp only [col3]; omega, by simp only [col3]; omega, by omega, by omega⟩
  by_cases h4 : r < b ∧ g ≤ r
  · exact ⟨g, 4, b - r, r - g, by omega, by omega, by simp only [col3]; omega, by simp only [col3]; omega, by simp only [col3]; omega, by omega, by omega⟩
  · exact ⟨g, 5, b - g, r - b, by omega, by omega, by simp only [col3]; omega, by simp only [col3]; omega, by simp only [col3]; omega, by omega, by omega⟩
theorem hlt_iff {s a b a' b' : Nat} : HLt s a b s a' b' ↔ a' * b < a * b' := by
  unfold HLt
  have e1 : (s * (a + b) + b) * (a' + b') = s * ((a + b) * (a' + b')) + (a' * b + b * b') := by
    rw [Nat.add_mul, Nat.mul_assoc, Nat.mul_add b, Nat.mul_comm b a']
  have e2 : (s * (a' + b') + b') * (a + b) = s * ((a + b) * (a' + b')) + (a * b' + b * b') := by
    rw [Nat.add_mul, Nat.mul_assoc, Nat.mul_comm (a' + b'), Nat.mul_add b', Nat.mul_comm b' a, Nat.mul_comm b' b]
  rw [e1, e2]
  omega
theorem hlt_asym {s a b s' a' b' : Nat} (h : HLt s a b s' a' b') (h' : HLt s' a' b' s a b) : False := by
  unfold HLt at h h'
  omega
theorem fmod_nat (a b : Nat) : ((a : Int).fmod (b : Int)).toNat = a % b := by
  rw [Int.fmod_eq_emod_of_nonneg _ (by omega)]
  have e : (a : Int) % (b : Int) = ((a % b : Nat) : Int) := by simp
  rw [e, Int.toNat_natCast]
theorem fit_sum {s w p q a b a₂ b₂ : Nat} {t o : Int} (hs : s < 6) (h1 : t * a + o * a₂ = p) (h2 : t * b + o * b₂ = q) :
    [(w : Int) + t * (colS s a b).1 + o * (colS s a₂ b₂).1, (w : Int) + t * (colS s a b).2.1 + o * (colS s a₂ b₂).2.1, (w : Int) + t * (colS s a b).2.2 + o * (colS s a₂ b₂).2.2] = [((w + (col3 s p q).1 : Nat) : Int), ((w + (col3 s p q).2.1 : Nat) : Int), ((w + (col3 s p q).2.2 : Nat) : Int)] := by
  have m1 : t * ((a + b : Nat) : Int) = t * a + t * b := by rw [Int.natCast_add, Int.mul_add]
  have m2 : o * ((a₂ + b₂ : Nat) : Int) = o * a₂ + o * b₂ := by rw [Int.natCast_add, Int.mul_add]
  have z1 : t * ((0 : Nat) : Int) = 0 := by simp
  have z2 : o * ((0 : Nat) : Int) = 0 := by simp
  unfold colS
  match s, hs with
  | 0, _ => simp only [col3, List.cons.injEq, and_true]; refine ⟨?_, ?_, ?_⟩ <;> omega
  | 1, _ => simp only [col3, List.cons.injEq, and_true]; refine ⟨?_, ?_, ?_⟩ <;> omega
  | 2, _ => simp only [col3, List.cons.injEq, and_true]; refine ⟨?_, ?_, ?_⟩ <;> omega
  | 3, _ => simp only [col3, List.cons.injEq, and_true]; refine ⟨?_, ?_, ?_⟩ <;> omega
  | 4, _ => simp only [col3, List.cons.injEq, and_true]; refine ⟨?_, ?_, ?_⟩ <;> omega
  | 5, _ => simp only [col3, List.cons.injEq, and_true]; refine ⟨?_, ?_, ?_⟩ <;> omega
theorem key_red : key (0, 1, 0) = 0 := by decide +kernel
theorem fin_zero : FinF 0 := ⟨false, 0, -1074, by kernel_rfl⟩
theorem val_zero : val 0 = 0 := by decide +kernel
theorem Cells.fin {k : Nat} {cells : List Cell} (hc : Cells k cells) (hk : k ≤ 9) {j : Nat} {c : Cell} (e : cells[j]? = some c) : FinF (key c) ∧ NearHue (val (key c)) c.1 c.2.1 c.2.2 := by
  obtain ⟨g1, g2, g3⟩ := hc.ok j c e
  have := pow_k hk
  exact key_near g1 g2 (by omega)
def AskAll (cols : List Col) (ar ag ab : Int) : Prop :=
    ∃ Lf Rt : Nat, Lf ≤ cols.length ∧ 1 ≤ Rt ∧ Rt ≤ cols.length ∧
    (∀ (j : Nat) (c : Col), cols[j]? = some c → (Float64.cmp (hueK c) (hueF (q8 ar) (q8 ag) (q8 ab)) == some Ordering.lt) = decide (j < Lf)) ∧
    (∀ (j : Nat) (c : Col), cols[j]? = some c → (Float64.cmp (hueF (q8 ar) (q8 ag) (q8 ab)) (hueK c) == some Ordering.lt) = decide (Rt ≤ j)) ∧
    (∀ (c₁ c₂ : Col) (W : Int), cols[((Rt : Int) - 1).toNat]? = some c₁ → cols[((Rt : Int).fmod (cols.length : Nat)).toNat]? = some c₂ → (W = ar ∨ W = ag ∨ W = ab) → (W ≤ ar ∧ W ≤ ag ∧ W ≤ ab) → Fit ar ag ab c₁ c₂ W Lf Rt cols)
theorem ask_grey {k : Nat} {cells : List Cell} (hc : Cells k cells) (hk : k ≤ 9) {r : Nat} (hr : r ≤ 8) : AskAll (cells.map colOf) r r r := by
  have hlen := hc.len
  unfold AskAll
  have hlm : (cells.map colOf).length = 6 + k := by rw [List.length_map, hlen]
  rw [hueF_grey lays_8 (by omega)]
  have k0 : ∀ (j : Nat) d, cells[j]? = some d → 1 ≤ j → 0 < val (key d) := fun j d e hj => by
    have := hc.lt hk (i := 0) (j := j) (by omega) hc.head e
    rw [key_red, val_zero] at this
    exact this
  have c0 : ∀ (j : Nat) d, cells[j]? = some d → 0 ≤ val (key d) := fun j d e => by
    have := hc.le hk (i := 0) (j := j) (by omega) hc.head e
    rw [key_red, val_zero] at this
    exact this
  have cR : ∀ (j : Nat) (d : Cell), cells[j]? = some d → (Float64.cmp 0 (hueK (colOf d)) == some Ordering.lt) = decide (1 ≤ j) := fun j d x => by
    have q := cmp_lt fin_zero (hc.fin hk x).1
    unfold key at q
    rw [q, val_zero]
    by_cases hj : 1 ≤ j
    · rw [decide_eq_true hj]; exact decide_eq_true (k0 j d x hj)
    · rw [decide_eq_false hj]
      have j0 : j = 0 := by omega
      subst j0
      rw [hc.head] at x
      cases x
      exact decide_eq_false (by have := key_red; unfold key at this; rw [this, val_zero]; omega)
  refine ⟨0, 1, by omega, by omega, by omega, ?_, ?_, ?_⟩
  · intro j c e
    rw [List.getElem?_map] at e
    obtain ⟨d, x, rfl⟩ := Option.map_eq_some_iff.mp e
    have q := cmp_lt (hc.fin hk x).1 fin_zero
    unfold key at q
    rw [q, val_zero, decide_eq_false (by omega : ¬ j < 0)]
    exact decide_eq_false (by have := c0 j d x; unfold key at this; omega)
  · intro j c e
    rw [List.getElem?_map] at e
    obtain ⟨d, x, rfl⟩ := Option.map_eq_some_iff.mp e
    exact cR j d x
  · intro c₁ c₂ W e1 e2 hW1 hW2
    have hWr : W = r := by omega
    subst hWr
    have z1 : cross ((r : Int), (r : Int), (r : Int)) c₂ = 0 := by unfold cross; simp
    have z2 : cross c₁ ((r : Int), (r : Int), (r : Int)) = 0 := by unfold cross; simp
    refine ⟨?_, fun _ => ⟨rfl, rfl, ?_⟩, fun h => absurd ⟨rfl, rfl⟩ h⟩
    · rw [z1, z2]; simp
    · intro j c e
      rw [hueF_grey lays_8 (by omega)]
      rw [List.getElem?_drop, List.getElem?_map] at e
      obtain ⟨d, x, rfl⟩ := Option.map_eq_some_iff.mp e
      rw [cR (1 + j) d x, decide_eq_true (by omega), decide_eq_true (by omega)]
theorem ask_hue {k : Nat} {cells : List Cell} (hc : Cells k cells) (hk : k ≤ 9) {w s p q : Nat} (hs : s < 6) (hp : 1 ≤ p) (hw : w + p + q ≤ 8) (hng : ¬ (((w + (col3 s p q).1 : Nat) : Int) = ((w + (col3 s p q).2.1 : Nat) : Int) ∧ ((w + (col3 s p q).2.1 : Nat) : Int) = ((w + (col3 s p q).2.2 : Nat) : Int)))
    (hwm : (w = w + (col3 s p q).1 ∨ w = w + (col3 s p q).2.1 ∨ w = w + (col3 s p q).2.2)) :
    AskAll (cells.map colOf) ((w + (col3 s p q).1 : Nat) : Int) ((w + (col3 s p q).2.1 : Nat) : Int) ((w + (col3 s p q).2.2 : Nat) : Int) := by
  have hlen := hc.len
  have hpk := pow_k hk
  have hlm : (cells.map colOf).length = cells.length := List.length_map ..
  obtain ⟨ft, nt⟩ := hue_near lays_8 (w := w) (s := s) (a := p) (b := q) hs hp (by omega)
  have htone : hueF (q8 ((w + (col3 s p q).1 : Nat) : Int)) (q8 ((w + (col3 s p q).2.1 : Nat) : Int)) (q8 ((w + (col3 s p q).2.2 : Nat) : Int)) = hueW q8 w s p q := rfl
  have h0 : ∃ c, cells[0]? = some c ∧ ¬ HLt s p q c.1 c.2.1 c.2.2 := ⟨_, hc.head, by unfold HLt; simp⟩
  obtain ⟨i, hi, ⟨c, ec, hPi⟩, hafter⟩ := last_with (n := cells.length) (fun j => ∃ c, cells[j]? = some c ∧ ¬ HLt s p q c.1 c.2.1 c.2.2) h0 (by omega)
  have haft : ∀ (j : Nat) d, cells[j]? = some d → i < j → HLt s p q d.1 d.2.1 d.2.2 := fun j d e hj => by
    have hjl : j < cells.length := (List.getElem?_eq_some_iff.mp e).1
    exact Classical.byContradiction fun hn => hafter j hj hjl ⟨d, e, hn⟩
  have hmod : (i + 1) % cells.length < cells.length := Nat.mod_lt _ (by omega)
  have ex₂ : cells[(i + 1) % cells.length]? = some cells[(i + 1) % cells.length] := by simp [hmod]
  obtain ⟨a₂, b₂, n1, n2, n3, n4, n5, n6⟩ := hc.next ec ex₂
  generalize cells[(i + 1) % cells.length] = c₂ at *
  obtain ⟨o1, o2, o3⟩ := hc.ok i c ec
  have hsc : c.1 = s := by
    refine Nat.le_antisymm (Nat.not_lt.mp fun h => hPi (hlt_up h hp (by omega))) (Nat.not_lt.mp fun h => ?_)
    by_cases hl : i + 1 < cells.length
    · obtain ⟨m1, m2⟩ := n5 hl
      have hh := haft (i + 1) c₂ m1 (by omega)
      have ok2 := hc.ok _ _ m1
      rcases m2 with ⟨q1, _, _⟩ | ⟨q1, _, _, _⟩
      · exact hlt_asym hh (hlt_up (by omega) ok2.2.1 (by omega))
      · rw [q1] at hh
        unfold HLt at hh
        dsimp only at hh
        have h1 : (c.1 + 1) * (p + q) ≤ s * (p + q) := Nat.mul_le_mul_right _ h
        have e1 : (s * (p + q) + q) * (1 + 0) = s * (p + q) + q := by rw [Nat.mul_one]
        have e2 : ((c.1 + 1) * (1 + 0) + 0) * (p + q) = (c.1 + 1) * (p + q) := by rw [Nat.add_zero, Nat.add_zero, Nat.mul_one]
        omega
    · have := (n6 (by omega)).1
      omega
  obtain ⟨sc, a, b⟩ := c
  dsimp only at *
  subst hsc
  have hob : p * b ≤ a * q := by
    have := mt hlt_iff.mpr hPi
    omega
  have htt : a₂ * q < p * b₂ := by
    by_cases hl : i + 1 < cells.length
    · obtain ⟨m1, m2⟩ := n5 hl
      have hh := haft (i + 1) c₂ m1 (by omega)
      rcases m2 with ⟨q1, q2, q3⟩ | ⟨_, q2, q3, _⟩
      · rw [q1, ← q2, ← q3] at hh
        exact hlt_iff.mp hh
      · rw [q2, q3]; omega
    · obtain ⟨_, _, q2, q3⟩ := n6 (by omega)
      rw [q2, q3]; omega
  have hn2 : (a : Int) * b₂ = a₂ * b + 1 := by
    have := congrArg (fun x : Nat => (x : Int)) n2
    simpa using this
  have i1 := ident1 (p := (p : Int)) (q := (q : Int)) hn2
  have i2 := ident2 (p := (p : Int)) (q := (q : Int)) hn2
  have cobI : (b : Int) * p ≤ (a : Int) * q := by
    have := Int.ofNat_le.mpr hob
    simp only [Int.natCast_mul] at this
    rw [Int.mul_comm (b : Int)]; exact this
  have cttI : (q : Int) * a₂ < (p : Int) * b₂ := by
    have := Int.ofNat_lt.mpr htt
    simp only [Int.natCast_mul] at this
    rw [Int.mul_comm (q : Int)]; exact this
  have keyc : key (sc, a, b) = hueW q4096 0 sc a b := key_eq _
  -- the key of the asked colour against the near one
  have heq : a * q = p * b → hueW q8 w sc p q = key (sc, a, b) := fun he => by
    obtain ⟨t, ht⟩ := Int.eq_ofNat_of_zero_le (show 0 ≤ (p : Int) * b₂ - q * a₂ by omega)
    have he' : (a : Int) * q - b * p = 0 := by
      have := congrArg (fun x : Nat => (x : Int)) he
      simp only [Int.natCast_mul] at this
      rw [Int.mul_comm (b : Int)]; omega
    rw [he', ht] at i1 i2
    simp only [Int.zero_mul, Int.add_zero] at i1 i2
    have p1 : p = t * a := by
      have : ((t * a : Nat) : Int) = (p : Int) := by rw [Int.natCast_mul]; exact i1
      omega
    have p2 : q = t * b := by
      have : ((t * b : Nat) : Int) = (q : Int) := by rw [Int.natCast_mul]; exact i2
      omega
    have ht1 : 1 ≤ t := by omega
    rw [keyc, p1, p2]
    exact hue_same lays_8 lays_4096 hs o2 ht1 (by rw [← p1, ← p2]; omega) (by omega)
  have kc := hc.fin hk ec
  have hne : a * q ≠ p * b → val (key (sc, a, b)) < val (hueW q8 w sc p q) := fun h => near_lt (s := sc) (a := a) (b := b) kc.2 nt (by omega) (by omega) (by omega) (by omega) (hlt_iff.mpr (by omega))
  have hgt : ∀ (j : Nat) d, cells[j]? = some d → i < j → val (hueW q8 w sc p q) < val (key d) := fun j d e hj => by
    obtain ⟨g1, g2, g3⟩ := hc.ok j d e
    exact near_lt nt (hc.fin hk e).2 (by omega) (by omega) (by omega) (by omega) (haft j d e hj)
  have hle : val (key (sc, a, b)) ≤ val (hueW q8 w sc p q) := by
    by_cases h : a * q = p * b
    · rw [heq h]; exact Int.le_refl _
    · exact Int.le_of_lt (hne h)
  unfold AskAll
  rw [htone, hlm]
  refine ⟨if a * q = p * b then i else i + 1, i + 1, by split <;> omega, by omega, by omega, ?_, ?_, ?_⟩
  · intro j cc e
    rw [List.getElem?_map] at e
    obtain ⟨d, x, rfl⟩ := Option.map_eq_some_iff.mp e
    have qq := cmp_lt (hc.fin hk x).1 ft
    unfold key at qq
    rw [qq]
    by_cases h : a * q = p * b
    · rw [if_pos h, heq h]
      by_cases hj : j < i
      · rw [decide_eq_true hj]; exact decide_eq_true (hc.lt hk hj x ec)
      · rw [decide_eq_false hj]; exact decide_eq_false (by have := hc.le hk (i := i) (j := j) (by omega) ec x; unfold key at this ⊢; omega)
    · rw [if_neg h]
      have hlt := hne h
      by_cases hj : j < i + 1
      · rw [decide_eq_true hj]; exact decide_eq_true (by have := hc.le hk (i := j) (j := i) (by omega) x ec; unfold key at this hlt; omega)
      · rw [decide_eq_false hj]; exact decide_eq_false (by have := hgt j d x (by omega); unfold key at this; omega)
  · intro j cc e
    rw [List.getElem?_map] at e
    obtain ⟨d, x, rfl⟩ := Option.map_eq_some_iff.mp e
    have qq := cmp_lt ft (hc.fin hk x).1
    unfold key at qq
    rw [qq]
    by_cases hj : i + 1 ≤ j
    · rw [decide_eq_true hj]; exact decide_eq_true (hgt j d x (by omega))
    · rw [decide_eq_false hj]; exact decide_eq_false (by have := hc.le hk (i := j) (j := i) (by omega) x ec; unfold key at this hle; omega)
  · intro k₁ k₂ W e1 e2 hW1 hW2
    rw [show (((i + 1 : Nat) : Int) - 1).toNat = i by omega, List.getElem?_map, ec] at e1
    rw [fmod_nat, List.getElem?_map, ex₂] at e2
    cases e1
    cases e2
    have hWw : W = (w : Int) := by omega
    subst hWw
    rw [n1]
    show Fit _ _ _ (colS sc a b) _ _ _ _ _
    unfold Fit
    rw [cross_ask hs, cross_near hs]
    refine ⟨fit_sum hs i1 i2, fun h => absurd h hng, fun _ => ⟨by omega, by omega, fun h => ?_, fun h => ?_⟩⟩
    · have : a * q = p * b := by
        have h1 : ((a * q : Nat) : Int) = ((p * b : Nat) : Int) := by
          rw [Int.natCast_mul, Int.natCast_mul, Int.mul_comm (p : Int)]; omega
        omega
      rw [if_pos this]; omega
    · have : a * q ≠ p * b := fun h1 => h (by
        have h2 := congrArg (fun x : Nat => (x : Int)) h1
        simp only [Int.natCast_mul] at h2
        rw [Int.mul_comm (b : Int)]; omega)
      rw [if_neg this]
theorem wheel_ask {k : Nat} {cols : List Col} {ar ag ab : Int} (h : Wheel k cols) (hk : k ≤ 9) (h1 : 0 ≤ ar ∧ ar ≤ 8) (h2 : 0 ≤ ag ∧ ag ≤ 8) (h3 : 0 ≤ ab ∧ ab ≤ 8) : AskAll cols ar ag ab := by
  obtain ⟨cells, rfl, hc⟩ := h
  obtain ⟨r, rfl⟩ := Int.eq_ofNat_of_zero_le h1.1
  obtain ⟨g, rfl⟩ := Int.eq_ofNat_of_zero_le h2.1
  obtain ⟨b, rfl⟩ := Int.eq_ofNat_of_zero_le h3.1
  by_cases hg : r = g ∧ g = b
  · obtain ⟨rfl, rfl⟩ := hg
    exact ask_grey hc hk (by omega)
  · obtain ⟨w, s, p, q, hs, hp, e1, e2, e3, e4, e5⟩ := dec3 hg
    have hw : w + p + q ≤ 8 := by omega
    have hng : ¬ ((r : Int) = (g : Int) ∧ (g : Int) = (b : Int)) := by omega
    rw [e1, e2, e3] at hng ⊢
    exact ask_hue hc hk hs hp hw hng (by omega)
end Mine
end PartMP
section PartMI
open PySem PySem.W PyProof.Rows PySem.Flt
namespace Mine
/-- the colours of a row, by the ledger -/
def ColsIn (rest : List (Addr × Obj)) (items : List Value) (cols : List Col) : Prop := items.length = cols.length ∧ ∀ (i : Nat) (v : Value) (c : Col), items[i]? = some v → cols[i]? = some c →
  ∃ a t1 t2 t3 n, v = .ref a ∧ (a, listOf #[.int c.1 t1, .int c.2.1 t2, .int c.2.2 t3] n) ∈ rest
def TurnPost (h₀ : Heap) (L I : Addr) (oI : Obj) (J : (Str → Option Value) → List (Addr × Obj) → Prop) (s : Shared) (Q : Flow → Shared → Prop) (f : Flow) (s₂ : Shared) : Prop :=
  match f with
  | .ret v => Q (.ret v) s₂
  | .brk => Q .next s₂
  | _ => ∃ h' tk m' news', s₂ = { s with heap := h', toks := tk } ∧ Fr h₀ L h' m' ∧ News h₀ L h' ((I, oI) :: news') ∧ (∀ p ∈ news', p.1 ≠ I) ∧ J m' news'
section
variable {prog : Program} {w : World} {A : Around} {E : Value → Shared → Prop} {s : Shared} {env : Env} {h₀ : Heap} {x : Str} {body : List Stmt} {Q : Flow → Shared → Prop}
theorem for_ints {l : Addr} {vs : List Value} {ns : List Int} {m₀ : Str → Option Value} {news : List (Addr × Obj)} (J : Nat → (Str → Option Value) → List (Addr × Obj) → Prop)
    (hh : A.handled = none) (hl : h₀.IsList l vs.toArray) (hi : IntsAre vs ns) (F : Fr h₀ env.locals s.heap m₀) (N : News h₀ env.locals s.heap news) (hj : J 0 m₀ news)
    (turn : ∀ i n t m₁ news₁ h tk I oI, ns[i]? = some n → J i m₁ news₁ → Fr h₀ env.locals h (fun y => if y = x then some (.int n t) else m₁ y) → News h₀ env.locals h ((I, oI) :: news₁) → (∀ p ∈ news₁, p.1 ≠ I) →
      wpAny (model prog w) A (execs body env) (TurnPost h₀ env.locals I oI (J (i + 1)) { s with heap := h, toks := tk } Q) E { s with heap := h, toks := tk })
    (done : ∀ m₁ news₁ h tk, J ns.length m₁ news₁ → Fr h₀ env.locals h m₁ → News h₀ env.locals h news₁ → Q .next { s with heap := h, toks := tk }) :
    wpAny (model prog w) A (pyIter (.ref l)) (fun it s₂ => LoopAtV prog w A h₀ env x body Q E it s₂) E s := by
  have hls : s.heap.IsList l vs.toArray := hl.at fun o e => F.keep l o e
  obtain ⟨ol, hol, _⟩ := id hl
  have hlt : l < h₀.objs.size := Heap.lt_size hol
  have hne : l ≠ s.heap.objs.size := Nat.ne_of_lt (Nat.lt_trans (Nat.lt_of_lt_of_le hlt F.above) F.ns.lt)
  refine wpAny_pyIter_list hls ?_
  have W := Walks.list (prog := prog) (w := w) hh s.heap.objs.size l hne vs.toArray
  have hlen : vs.toArray.size = ns.length := by simp [hi.length]
  rw [hlen] at W
  refine ⟨_, _, _, ns.length, _, _, m₀, news, J, rfl, W, ?_, ?_, ?_, ⟨⟨_, Heap.get?_push_size _ rfl, rfl, rfl⟩, hls.at fun o e => Heap.get?_push_of_some _ e⟩, F.push _, (fun p hp => ⟨Heap.get?_push_of_some _ (N p hp).1, (N p hp).2⟩), hj, ?_, ?_⟩
  · intro hm
    rcases List.mem_cons.mp hm with e | hm
    · exact absurd F.ns.lt (e ▸ Nat.lt_irrefl _)
    · exact absurd (Nat.lt_of_lt_of_le hlt F.above) ((List.mem_singleton.mp hm) ▸ Nat.lt_irrefl _)
  · intro b hb
    rw [List.mem_singleton.mp hb]
    exact next_is_new F
  · intro p hp hI
    exact absurd (Heap.lt_size (N p hp).1) ((List.mem_singleton.mp hI) ▸ Nat.lt_irrefl _)
  · rintro i v m₁ news₁ s₁ own ⟨hh', tk', rfl⟩ hin hP hJ hoff hown hownget hownall hst F₁ N₁
    have hlt' : i < ns.length := hin
    obtain ⟨t, hx⟩ := hi.get i ns[i] (by simp [hlt'])
    have hv : v = .int ns[i] t := by
      have hP' : vs[i]? = some v := by simpa using hP
      rw [hx] at hP'; exact (Option.some.inj hP').symm
    subst hv
    obtain ⟨oI, heI, _⟩ := hst.1
    have hI₀ : h₀.get? s.heap.objs.size = none := next_is_new F
    have memI : (s.heap.objs.size, oI) ∈ own := hownall _ (.head _) hI₀ _ heI
    have ownI : ∀ p ∈ own, p = (s.heap.objs.size, oI) := fun p hp => by
      have h1 := hownget p hp
      rcases List.mem_cons.mp (hown p hp) with e | e
      · obtain ⟨a, o⟩ := p
        dsimp only at e h1
        subst e
        rw [heI] at h1
        cases h1; rfl
      · have h2 := (N₁ p (List.mem_append_left _ hp)).2.2
        rw [List.mem_singleton.mp e, hol] at h2; cases h2
    have N₂ : News h₀ env.locals hh' ((s.heap.objs.size, oI) :: news₁) := fun p hp => by
      rcases List.mem_cons.mp hp with rfl | hp
      · exact N₁ _ (List.mem_append_left _ memI)
      · exact N₁ _ (List.mem_append_right _ hp)
    refine wpAny_mono (turn i ns[i] t m₁ news₁ hh' tk' s.heap.objs.size oI (by simp [hlt']) hJ F₁ N₂ fun p hp q => hoff p hp (List.mem_singleton.mpr q)) (fun f s₂ p => ?_) fun _ _ e => e
    have fin : (∃ h' tk m' news', s₂ = { s with heap := h', toks := tk } ∧ Fr h₀ env.locals h' m' ∧ News h₀ env.locals h' ((s.heap.objs.size, oI) :: news') ∧ (∀ p ∈ news', p.1 ≠ s.heap.objs.size) ∧ J (i + 1) m' news') → LoopStepU h₀ env.locals [s.heap.objs.size] own (J (i + 1)) { s with heap := hh', toks := tk' } .next s₂ := by
      rintro ⟨h', tk, m', news', e, F', N', hn, hm⟩
      refine ⟨rfl, h', tk, m', news', e, F', fun p hp => ?_, fun p hp q => hn p hp (List.mem_singleton.mp q), hm⟩
      rcases List.mem_append.mp hp with hp | hp
      · rw [ownI p hp]; exact N' _ (.head _)
      · exact N' _ (List.mem_cons_of_mem _ hp)
    cases f with
    | ret v => exact .ret p
    | brk => exact .brk p
    | next => exact .next (fin p)
    | cont => exact .cont (fin p)
  · rintro h' tk m' news' F' N' _ hJ
    exact done m' news' h' tk hJ F' N'
end

theorem ColsIn.at {h₀ h : Heap} {L : Addr} {rest news : List (Addr × Obj)} {items : List Value} {cols : List Col} (x : ColsIn rest items cols) (N : News h₀ L h news) (hs : ∀ p ∈ rest, p ∈ news) : ColsAt h items cols :=
  ⟨x.1, fun i v c e1 e2 => by
    obtain ⟨a, t1, t2, t3, n, rfl, hm⟩ := x.2 i v c e1 e2
    exact ⟨a, t1, t2, t3, rfl, _, (N _ (hs _ hm)).1, rfl, _, rfl⟩⟩
theorem ColsIn.hide {h₀ h : Heap} {L r : Addr} {rest news : List (Addr × Obj)} {items : List Value} {cols : List Col} (x : ColsIn rest items cols) (N : News h₀ L h news) (hs : ∀ p ∈ rest, p ∈ news) (hr : ∀ p ∈ rest, p.1 ≠ r) : ColsAt (h.hide r) items cols :=
  ⟨x.1, fun i v c e1 e2 => by
    obtain ⟨a, t1, t2, t3, n, rfl, hm⟩ := x.2 i v c e1 e2
    exact ⟨a, t1, t2, t3, rfl, _, (Heap.hide_ne h (hr _ hm)).trans (N _ (hs _ hm)).1, rfl, _, rfl⟩⟩
theorem ColsIn.mono {rest rest' : List (Addr × Obj)} {items : List Value} {cols : List Col} (x : ColsIn rest items cols) (hs : ∀ p ∈ rest, p ∈ rest') : ColsIn rest' items cols :=
  ⟨x.1, fun i v c e1 e2 => by
    obtain ⟨a, t1, t2, t3, n, rfl, hm⟩ := x.2 i v c e1 e2
    exact ⟨a, t1, t2, t3, n, rfl, hs _ hm⟩⟩
theorem rowNow {h₀ h : Heap} {L l : Addr} {rest news : List (Addr × Obj)} {items : List Value} {cols : List Col} {n : Nat} (N : News h₀ L h news) (hm : (l, listOf items.toArray n) ∈ news) (x : ColsIn rest items cols) (hs : ∀ p ∈ rest, p ∈ news) : RowAt h l items cols :=
  ⟨⟨_, (N _ hm).1, rfl, _, rfl⟩, (x.at N hs).1, (x.at N hs).2⟩
section
variable {prog : Program} {w : World} {A : Around} {E : Value → Shared → Prop} {s : Shared} {Q : Value → Shared → Prop} {h₀ : Heap} {L l : Addr} {m : Str → Option Value} {rest news : List (Addr × Obj)} {items : List Value} {cols : List Col} {n : Nat}
theorem tw_len (N : News h₀ L s.heap news) (hm : (l, listOf items.toArray n) ∈ news) (hC : ColsIn rest items cols) (hh : cols.length < 100)
    (h : Q (.int (cols.length : Nat) (s.toks + 1)) { s with toks := s.toks + 1 + 1 }) : wpAny (model prog w) A (call (.builtin "len") [.ref l]) Q E s := by
  refine Calls.call_len_list (News.isList N hm) (by have := hC.1; simp; omega) ?_
  rw [List.size_toArray, hC.1]
  exact h
theorem tw_item {value slice : PySem.Expr} {k : Int} {u : Tok} (N : News h₀ L s.heap news) (hm : (l, listOf items.toArray n) ∈ news) (hC : ColsIn rest items cols) (hh : cols.length < 100) (h0 : 0 ≤ k) (h1 : k < (cols.length : Int))
    (h : ∀ c a t1 t2 t3 n', cols[k.toNat]? = some c → (a, listOf #[.int c.1 t1, .int c.2.1 t2, .int c.2.2 t3] n') ∈ rest → Q (.ref a) s)
    (hs : subscripted slice false (.ref l) (.int k u) = operate [.ref l, .int k u] (getItem (.ref l) (.int k u)) := by with_unfolding_all rfl) :
    wpAny (model prog w) A (subscriptTail value slice (.ref l) (.int k u)) Q E s := by
  have hk : k.toNat < cols.length := by omega
  have hk' : k.toNat < items.length := by have := hC.1; omega
  obtain ⟨a, t1, t2, t3, n', e, hmem⟩ := hC.2 k.toNat items[k.toNat] cols[k.toNat] (by simp [hk']) (by simp [hk])
  have hL := News.isList N hm
  exact tail_any hL.typeIs slot_list_getitem.lookup (wpAny_getItem_list hL h0 (by omega) (by simp [hk']; rfl) (by rw [e]; exact h _ a t1 t2 t3 n' (by simp [hk]) hmem)) hs
end
theorem ins_news {h₀ h h' : Heap} {L r : Addr} {m : Str → Option Value} {pre post : List (Addr × Obj)} {o o' : Obj} (F : Fr h₀ L h m) (N : News h₀ L h (pre ++ (r, o) :: post)) (h1 : ∀ p ∈ pre, p.1 ≠ r) (h2 : ∀ p ∈ post, p.1 ≠ r)
    (k : Kept (h.hide r) h') (e : h'.get? r = some o') : Fr h₀ L h' m ∧ News h₀ L h' (pre ++ (r, o') :: post) := by
  have D := N (r, o) (by simp)
  have up : ∀ b ob, b ≠ r → h.get? b = some ob → h'.get? b = some ob := fun b ob hb q => k b ob ((Heap.hide_ne h hb).trans q)
  refine ⟨⟨F.ns.at' fun ob q => up _ ob (Ne.symm D.2.1) q, fun b ob q => up b ob (fun z => ?_) (F.keep b ob q), F.above⟩, fun p hp => ?_⟩
  · have := D.2.2; dsimp only at this; rw [← z, q] at this; cases this
  · rcases List.mem_append.mp hp with q | q
    · have P := N p (List.mem_append_left _ q); exact ⟨up _ _ (h1 p q) P.1, P.2⟩
    · rcases List.mem_cons.mp q with rfl | q
      · exact ⟨e, D.2⟩
      · have P := N p (List.mem_append_right _ (.tail _ q)); exact ⟨up _ _ (h2 p q) P.1, P.2⟩
section
variable {w : World} {mean : ExcName → Option Value} {mg mb : Str → Option Value} {A : Around} {E : Value → Shared → Prop} {s : Shared} {Q : Value → Shared → Prop} {h₀ : Heap} {L l lm : Addr} {m : Str → Option Value} {rest pre post : List (Addr × Obj)} {items : List Value} {cols : List Col} {n nm R : Nat} {c : Col} {t1 t2 t3 : Tok}
theorem insR_use (F : Fr h₀ L s.heap m) (X : (hd.heap_39 w.params).In h₀) (T : Top hd.view_39 LO mean mg mb h₀) (N : News h₀ L s.heap (pre ++ (l, listOf items.toArray n) :: post)) (h1 : ∀ p ∈ pre, p.1 ≠ l) (h2 : ∀ p ∈ post, p.1 ≠ l)
    (hA : A.handled = none) (hd : A.depth + 24 < recursionLimit) (hu : A.units + 240 < cLine) (hC : ColsIn rest items cols) (hs : ∀ p ∈ rest, p ∈ post) (hg : ∀ c ∈ cols, GoodCol c) (hlen : cols.length < 100) (hR : R ≤ cols.length)
    (hm : (lm, listOf #[.int c.1 t1, .int c.2.1 t2, .int c.2.2 t3] nm) ∈ pre) (hgc : GoodCol c)
    (hcmp : ∀ (j : Nat) (c' : Col), cols[j]? = some c' → (Float64.cmp (hueK c) (hueK c') == some Ordering.lt) = decide (R ≤ j))
    (h : ∀ h' tk', Fr h₀ L h' m → News h₀ L h' (pre ++ (l, listOf (items.take R ++ .ref lm :: items.drop R).toArray (n + 1)) :: post) → Q .none { s with heap := h', toks := tk' }) :
    wpAny (model PySem.Challenge.rw_pe0137_01.row.prog w) A (call (.ref 23) [.ref l, .ref lm] [(Str.ofString "key", .ref 71)]) Q E s := by
  have D := N (l, listOf items.toArray n) (by simp)
  refine insR_ctr w mean mg mb A s Q E h₀ l lm t1 t2 t3 c.1 c.2.1 c.2.2 items n cols R X T F.keep D.2.2 hA hd hu D.1 (hC.hide N (fun p hp => List.mem_append_right _ (.tail _ (hs p hp))) fun p hp => h2 p (hs p hp)) hg hlen hR ⟨_, (Heap.hide_ne _ (h1 _ hm)).trans (N _ (List.mem_append_left _ hm)).1, rfl, _, rfl⟩ hgc hcmp ?_
  intro h' tk' k e
  obtain ⟨F', N'⟩ := ins_news F N h1 h2 k e
  exact h h' tk' F' N'
theorem insL_use (F : Fr h₀ L s.heap m) (X : (hd.heap_39 w.params).In h₀) (T : Top hd.view_39 LO mean mg mb h₀) (N : News h₀ L s.heap (pre ++ (l, listOf items.toArray n) :: post)) (h1 : ∀ p ∈ pre, p.1 ≠ l) (h2 : ∀ p ∈ post, p.1 ≠ l)
    (hA : A.handled = none) (hd : A.depth + 24 < recursionLimit) (hu : A.units + 240 < cLine) (hC : ColsIn rest items cols) (hs : ∀ p ∈ rest, p ∈ post) (hg : ∀ c ∈ cols, GoodCol c) (hlen : cols.length < 100) (hR : R ≤ cols.length)
    (hm : (lm, listOf #[.int c.1 t1, .int c.2.1 t2, .int c.2.2 t3] nm) ∈ pre) (hgc : GoodCol c)
    (hcmp : ∀ (j : Nat) (c' : Col), cols[j]? = some c' → (Float64.cmp (hueK c') (hueK c) == some Ordering.lt) = decide (j < R))
    (h : ∀ h' tk', Fr h₀ L h' m → News h₀ L h' (pre ++ (l, listOf (items.take R ++ .ref lm :: items.drop R).toArray (n + 1)) :: post) → Q .none { s with heap := h', toks := tk' }) :
    wpAny (model PySem.Challenge.rw_pe0137_01.row.prog w) A (call (.ref 41) [.ref l, .ref lm] [(Str.ofString "key", .ref 71)]) Q E s := by
  have D := N (l, listOf items.toArray n) (by simp)
  refine insL_ctr w mean mg mb A s Q E h₀ l lm t1 t2 t3 c.1 c.2.1 c.2.2 items n cols R X T F.keep D.2.2 hA hd hu D.1 (hC.hide N (fun p hp => List.mem_append_right _ (.tail _ (hs p hp))) fun p hp => h2 p (hs p hp)) hg hlen hR ⟨_, (Heap.hide_ne _ (h1 _ hm)).trans (N _ (List.mem_append_left _ hm)).1, rfl, _, rfl⟩ hgc hcmp ?_
  intro h' tk' k e
  obtain ⟨F', N'⟩ := ins_news F N h1 h2 k e
  exact h h' tk' F' N'
end
def WJ (i : Nat) (m : Str → Option Value) (news : List (Addr × Obj)) : Prop := ∃ (ra ta : Addr) (items : List Value) (nr nt : Nat) (rest : List (Addr × Obj)) (cols : List Col), m (Str.ofString "row") = some (.ref ra) ∧ m (Str.ofString "twin") = some (.ref ta) ∧
  news = (ra, listOf items.toArray nr) :: (ta, listOf items.toArray nt) :: rest ∧ ta ≠ ra ∧ (∀ p ∈ rest, p.1 ≠ ra) ∧ ColsIn rest items cols ∧ Wheel i cols
theorem wj_frame {m₁ : Str → Option Value} {v a b : Value} (h1 : m₁ (Str.ofString "row") = some a) (h2 : m₁ (Str.ofString "twin") = some b) :
    (fun y => if y = Str.ofString "number" then some v else m₁ y) = fun y => if y = Str.ofString "number" then some v else if y = Str.ofString "row" then some a else if y = Str.ofString "twin" then some b else m₁ y := by
  funext y
  by_cases e1 : y = Str.ofString "number"
  · simp [e1]
  · by_cases e2 : y = Str.ofString "row"
    · subst e2; simp only [if_neg e1, if_true]; exact h1
    · by_cases e3 : y = Str.ofString "twin"
      · subst e3; simp only [if_neg e1, if_neg e2, if_true]; exact h2
      · simp only [if_neg e1, if_neg e2, if_neg e3]
section
variable {prog : Program} {w : World} {A : Around} {E : Value → Shared → Prop} {env : Env}
theorem assign_zipN {elt iter : PySem.Expr} {x x₂ y : Str} {px px₂ py tp : Pos} {kk : Nat} {scope : Scope} {cl : List (Str × Addr)} {pos spos : Pos} {s : Shared} {l1 l2 : Addr} {xs ys : Array Value} (G : Nat → Value → Prop) {Q : Flow → Shared → Prop} {h₀ : Heap} {m : Str → Option Value} {news : List (Addr × Obj)}
    (F : Fr h₀ env.locals s.heap m) (N : News h₀ env.locals s.heap news)
    (hh : A.handled = none) (hsz : xs.size ≤ sizeLine) (hxy : ys.size = xs.size)
    (hsw : swapsWith (.ListComp elt [⟨.Tuple [.Name x px, .Name x₂ px₂] kk tp, iter, [], 0⟩] scope pos) (some (.Name y py)) spos.line env = pure true)
    (hclos : closureFor scope env = pure cl) (hcell : ∀ y ∈ scope.names, y.2 ≠ .cell) (hkind : scope.kind = .function)
    (hnames : ∀ y ∈ scope.names, y.2 = .local → scope.names.lookup y.1 = some .local) (hx : scope.names.lookup x = some .local) (hx₂ : scope.names.lookup x₂ = some .local) (hxx : x ≠ x₂)
    (hy : env.kindOf y = some .local) (hp : (env.scope.kind == .class || (env.scope.kind == .module && env.locals != env.globals)) = false)
    (h : wpAny (model prog w) A (eval iter env) (ZipSrc s l1 l2 xs ys) E s)
    (helt : ∀ (i : Nat) (v1 v2 : Value) C (s₂ : Shared) m₂ E', xs[i]? = some v1 → ys[i]? = some v2 → s₂.heap.Ns C m₂ → m₂ x = some v1 → m₂ x₂ = some v2 → Kept s.heap s₂.heap →
      wpAny (model prog w) A (eval elt (compEnvC scope cl C env)) (fun y s₃ => G i y ∧ Keeps s₂ s₃) E' s₂)
    (hQ : ∀ D h' tk (vs : List Value) n, s.heap.get? D = none → vs.length = xs.size → (∀ (i : Nat) y, vs[i]? = some y → G i y) → Fr h₀ env.locals h' (fun z => if z = y then some (.ref D) else m z) → News h₀ env.locals h' ((D, listOf vs.toArray n) :: news) → Q .next { s with heap := h', toks := tk })
    (hs : ∀ x, foldedSetIterable iter env x = pure x) :
    wpAny (model prog w) A (exec (.Assign [.Name y py] (.ListComp elt [⟨.Tuple [.Name x px, .Name x₂ px₂] kk tp, iter, [], 0⟩] scope pos) spos) env) Q E s := by
  have hLs : ∃ oL, s.heap.get? env.locals = some oL := by obtain ⟨oL, _, _, e, _⟩ := F.ns; exact ⟨oL, e⟩
  obtain ⟨oL, hoL⟩ := hLs
  refine assign_zip G hh hsz hxy hsw hclos hcell hkind hnames hx hx₂ hxx h helt ?_ (by rw [hoL]; rfl) hs
  intro D h' tk vs n hD hl hlen hG kp
  obtain ⟨F8, N8⟩ := kept_new F N kp hD hl
  refine wpAny_storeName_local hy F8.ns (fun h₉ hn₉ hs₉ => ?_) hp
  have F9 := F8.set hn₉ hs₉
  have N9 := N8.set hs₉
  refine ⟨⟨_, _, rfl⟩, fun a o ha e => hs₉.extBut a o ha e, fun h'' C hC hCD hs'' => ?_⟩
  have hCL : C ≠ env.locals := fun q => by rw [q, hoL] at hC; cases hC
  have hC₀ : h₀.get? C = none := by
    cases q : h₀.get? C with
    | none => rfl
    | some o => have := F.keep _ _ q; rw [hC] at this; cases this
  refine hQ D h'' _ vs n hD hlen hG (F9.change hs'' hCL hC₀) fun p hp => ⟨hs''.extBut _ _ ?_ (N9 p hp).1, (N9 p hp).2⟩
  rcases List.mem_cons.mp hp with rfl | hp
  · exact Ne.symm hCD
  · intro q
    have := (N p hp).1
    rw [q, hC] at this; cases this
theorem elt_mix {s : Shared} {scope : Scope} {cl : List (Str × Addr)} {C : Addr} {m : Str → Option Value} {p1 p2 p3 : Pos} {a b : Int} {ta tb : Tok}
    (hk : scope.kind = .function) (k4 : (compEnvC scope cl C env).kindOf (Str.ofString "one") = some .local) (k5 : (compEnvC scope cl C env).kindOf (Str.ofString "two") = some .local)
    (hn : s.heap.Ns C m) (n1 : m (Str.ofString "one") = some (.int a ta)) (n2 : m (Str.ofString "two") = some (.int b tb)) :
    wpAny (model prog w) A (eval ((PySem.Expr.Name (Str.ofString "one") p1).BinOp .Add (PySem.Expr.Name (Str.ofString "two") p2) p3) (compEnvC scope cl C env))
      (fun y s₃ => (∃ t, y = .int (a + b) t) ∧ Keeps s s₃) E s := by
  refine wpAny_BinOp (wpAny_Name (wpAny_loadName_local hk k4 hn n1 ?_))
  refine wpAny_Name (wpAny_loadName_local hk k5 hn n2 ?_)
  refine PyProof.Rows.add_int ?_
  exact ⟨⟨_, rfl⟩, _, _, rfl, fun _ _ e => e⟩
end
theorem fmod_lo {n : Int} {l : Nat} (h : 0 < l) : 0 ≤ n.fmod (l : Int) := Int.fmod_nonneg_of_pos _ (by omega)
theorem fmod_hi {n : Int} {l : Nat} (h : 0 < l) : n.fmod (l : Int) < (l : Int) := Int.fmod_lt_of_pos _ (by omega)
theorem list_mem {h₀ h : Heap} {L a : Addr} {news : List (Addr × Obj)} {its : Array Value} {n : Nat} (N : News h₀ L h news) (hm : (a, listOf its n) ∈ news) : h.IsList a its := ⟨_, (N _ hm).1, rfl, _, rfl⟩
theorem fmod_next {n : Int} {l : Nat} (h : 0 < l) : ((n.fmod (l : Int) + 1).fmod (l : Int)).toNat = ((n.fmod (l : Int)).toNat + 1) % l := by
  have h0 := fmod_lo (n := n) h
  obtain ⟨k, hk⟩ := Int.eq_ofNat_of_zero_le h0
  rw [hk]
  rw [Int.fmod_eq_emod_of_nonneg _ (by omega)]
  have e : ((k : Int) + 1) % (l : Int) = (((k + 1) % l : Nat) : Int) := by simp
  rw [e, Int.toNat_natCast, Int.toNat_natCast]
theorem slice_upto {items : List Value} {y : Int} (h : 0 ≤ y) (h2 : y < (items.length : Int)) : (slicePick items.toArray none (some (y + 1)) none).toList = items.take (y.toNat + 1) := by
  have := slicePick_upto items.toArray (y.toNat + 1) (by simp; omega)
  rw [show ((y.toNat + 1 : Nat) : Int) = y + 1 by omega] at this
  rw [this]
theorem slice_from {items : List Value} {y : Int} (h : 0 ≤ y) (h2 : y < (items.length : Int)) : (slicePick items.toArray (some (y + 1)) none none).toList = items.drop (y.toNat + 1) := by
  have := slicePick_from items.toArray (y.toNat + 1) (by simp; omega)
  rw [show ((y.toNat + 1 : Nat) : Int) = y + 1 by omega] at this
  rw [this]
theorem add_listsL {prog : Program} {w : World} {A : Around} {E : Value → Shared → Prop} {s : Shared} {h₀ : Heap} {L l b : Addr} {m : Str → Option Value} {news : List (Addr × Obj)} {vs ws : List Value} {Q : Value → Shared → Prop} (F : Fr h₀ L s.heap m) (N : News h₀ L s.heap news) (hl : s.heap.IsList l vs.toArray) (hb : s.heap.IsList b ws.toArray)
    (h : ∀ D h', Fr h₀ L h' m → News h₀ L h' ((D, listOf (vs ++ ws).toArray 0) :: news) → (∀ p ∈ news, p.1 < D) → Q (.ref D) { s with heap := h' }) (hsz : vs.length + ws.length ≤ sizeLine) :
    wpAny (model prog w) A (binaryOp .Add (.ref l) (.ref b)) Q E s := add_lists F N hl hb (fun h' F' N' => h _ h' F' N' fun p hp => Heap.lt_size (N p hp).1) hsz
theorem news_trim {h₀ h : Heap} {L : Addr} {a1 a2 a3 a4 a5 aD aI aR aT : Addr × Obj} {rest : List (Addr × Obj)} (N : News h₀ L h (a1 :: a2 :: a3 :: a4 :: a5 :: aD :: aI :: aR :: aT :: rest)) : News h₀ L h (a1 :: aD :: aI :: aR :: rest) := fun p hp => N p (by
  simp only [List.mem_cons] at hp ⊢
  rcases hp with h | h | h | h | h <;> simp [h])
theorem news_end {h₀ h : Heap} {L : Addr} {q t d i r : Addr × Obj} {rest : List (Addr × Obj)} (N : News h₀ L h (q :: t :: d :: i :: r :: rest)) : News h₀ L h (i :: r :: t :: d :: rest) := fun p hp => N p (by
  simp only [List.mem_cons] at hp ⊢
  rcases hp with h | h | h | h | h <;> simp [h])
theorem lenS {items : List Value} (h : items.length < 100) : items.toArray.size ≤ sizeLine := by rw [List.size_toArray]; simp only [sizeLine]; omega
theorem lenA {items : List Value} {k : Nat} {v : Value} (h : items.length < 100) : (items.take k).length + [v].length ≤ sizeLine := by simp only [sizeLine, List.length_take, List.length_singleton]; omega
theorem lenB {items : List Value} {k : Nat} {v : Value} (h : items.length < 100) : (items.take k ++ [v]).length + (items.drop k).length ≤ sizeLine := by simp only [sizeLine, List.length_append, List.length_take, List.length_drop, List.length_singleton]; omega
def colD (c : Col) : PyData := .list [.int c.1, .int c.2.1, .int c.2.2]
theorem reads_col {h : Heap} {v : Value} {c : Col} (x : ColAt h v c) : ∃ as, Reads h v (colD c) as := by
  obtain ⟨l, t1, t2, t3, rfl, o, ho, hc, n, hd⟩ := x
  exact ⟨_, Reads.list ho hc hd (.cons (.int _ _) (.cons (.int _ _) (.cons (.int _ _) .nil)))⟩
theorem reads_cols {h : Heap} : ∀ {items : List Value} {cols : List Col}, ColsAt h items cols → ∃ as, ReadsAll h items (cols.map colD) as
  | [], [], _ => ⟨_, .nil⟩
  | [], _ :: _, x => by have := x.1; simp at this
  | _ :: _, [], x => by have := x.1; simp at this
  | v :: items, c :: cols, x => by
    obtain ⟨as, h1⟩ := reads_col (x.2 0 v c rfl rfl)
    obtain ⟨bs, h2⟩ := reads_cols (items := items) (cols := cols) ⟨by have := x.1; simpa using this, fun i v c a b => x.2 (i + 1) v c (by simpa using a) (by simpa using b)⟩
    exact ⟨_, .cons h1 h2⟩
theorem canLay_cols : ∀ cols : List Col, PyData.canLayAll0 (cols.map colD) = true
  | [] => by simp [PyData.canLayAll0]
  | c :: r => by simp [PyData.canLayAll0, PyData.canLay0, colD, canLay_cols r]
theorem depth_cols : ∀ cols : List Col, PyData.depthAll (cols.map colD) ≤ 3
  | [] => by simp [PyData.depthAll]
  | c :: r => by
    have := depth_cols r
    simp only [List.map_cons, PyData.depthAll, PyData.depth, colD]
    omega
theorem shaped_cols (cols : List Col) : SeqAt.shaped (.list (cols.map colD)) = true := by
  have h1 := depth_cols cols
  have h2 : PyData.depth (.list (cols.map colD)) ≤ 64 := by simp only [PyData.depth]; omega
  show (PyData.canLay0 (.list (cols.map colD)) && decide (PyData.depth (.list (cols.map colD)) ≤ 64)) = true
  rw [Bool.and_eq_true]
  exact ⟨by simp only [PyData.canLay0]; exact canLay_cols cols, decide_eq_true h2⟩
theorem ne_rows {prog : Program} {w : World} {A : Around} {E : Value → Shared → Prop} {s : Shared} {Q : Value → Shared → Prop} {a b : Addr} {its its' : List Value} {cols : List Col} (hR : RowAt s.heap a its cols) (hR' : RowAt s.heap b its' cols) (hu : A.units + 64 < cLine) (h : Q (.bool false) s) :
    wpAny (model prog w) A (compareOp .NotEq (.ref a) (.ref b)) Q E s := by
  obtain ⟨as, r1⟩ := reads_cols hR.cols
  obtain ⟨bs, r2⟩ := reads_cols hR'.cols
  obtain ⟨o, ho, hc, n, hd⟩ := hR.1
  obtain ⟨o', ho', hc', n', hd'⟩ := hR'.1
  refine ne_dataH (Reads.list ho hc hd r1) (Reads.list ho' hc' hd' r2) (shaped_cols cols) (shaped_cols cols) hu ?_
  rw [SeqAt.eqv_refl _ (SeqAt.canLay_of_shaped (shaped_cols cols))]
  exact h
theorem colsIn_put {rest : List (Addr × Obj)} {items : List Value} {cols : List Col} {D : Addr} {c : Col} {t1 t2 t3 : Tok} {n p : Nat} (h : ColsIn rest items cols) (hp : p < cols.length) :
    ColsIn ((D, listOf #[.int c.1 t1, .int c.2.1 t2, .int c.2.2 t3] n) :: rest) (items.take (p + 1) ++ .ref D :: items.drop (p + 1)) (putC cols p c) := by
  have hl := h.1
  refine ⟨by unfold putC; simp [hl], fun i v c' e1 e2 => ?_⟩
  unfold putC at e2
  rw [List.getElem?_append] at e1 e2
  have l1 : (items.take (p + 1)).length = p + 1 := by rw [List.length_take]; omega
  have l2 : (cols.take (p + 1)).length = p + 1 := by rw [List.length_take]; omega
  rw [l1] at e1
  rw [l2] at e2
  by_cases hi : i < p + 1
  · rw [if_pos hi, List.getElem?_take, if_pos hi] at e1 e2
    obtain ⟨a, u1, u2, u3, n', e, hm⟩ := h.2 i v c' e1 e2
    exact ⟨a, u1, u2, u3, n', e, .tail _ hm⟩
  · rw [if_neg hi] at e1 e2
    cases hj : i - (p + 1) with
    | zero =>
      rw [hj] at e1 e2
      simp at e1 e2
      subst e1 e2
      exact ⟨D, t1, t2, t3, n, rfl, .head _⟩
    | succ j =>
      rw [hj] at e1 e2
      simp only [List.getElem?_cons_succ, List.getElem?_drop] at e1 e2
      obtain ⟨a, u1, u2, u3, n', e, hm⟩ := h.2 _ v c' e1 e2
      exact ⟨a, u1, u2, u3, n', e, .tail _ hm⟩
theorem fmod9 {n : Int} : 0 ≤ n.fmod 9 ∧ n.fmod 9 ≤ 8 := ⟨Int.fmod_nonneg_of_pos _ (by decide), Int.le_of_lt_add_one (Int.fmod_lt_of_pos _ (by decide))⟩
theorem colsIn_nil {rest : List (Addr × Obj)} : ColsIn rest [] [] := ⟨rfl, fun i v c e => by simp at e⟩
theorem colsIn_cons {rest : List (Addr × Obj)} {items : List Value} {cols : List Col} {a : Addr} {x y z : Int} {t1 t2 t3 : Tok} {n : Nat} (hm : (a, listOf #[.int x t1, .int y t2, .int z t3] n) ∈ rest) (h : ColsIn rest items cols) : ColsIn rest (.ref a :: items) ((x, y, z) :: cols) :=
  ⟨by simp [h.1], fun i v c e1 e2 => by
    match i, e1, e2 with
    | 0, e1, e2 =>
      simp at e1 e2
      subst e1 e2
      exact ⟨a, t1, t2, t3, n, rfl, hm⟩
    | i + 1, e1, e2 => exact h.2 i v c (by simpa using e1) (by simpa using e2)⟩
theorem news_swap {h₀ h : Heap} {L : Addr} {a b : Addr × Obj} {r : List (Addr × Obj)} (N : News h₀ L h (a :: b :: r)) : News h₀ L h (b :: a :: r) := fun p hp => N p (by
  rcases List.mem_cons.mp hp with rfl | hp
  · exact .tail _ (.head _)
  · rcases List.mem_cons.mp hp with rfl | hp
    · exact .head _
    · exact .tail _ (.tail _ hp))
local macro_rules | `(tactic| k_room) => `(tactic| ktr_room)
local macro_rules | `(tactic| k_units) => `(tactic| ktr_units)
local macro_rules | `(tactic| walk_at "pyIter ref") => `(tactic| (refine StopAt.go ?_))
local macro_rules | `(tactic| walk_at "call builtin:len") => `(tactic| ((with_reducible show wpAny _ _ (call (Value.builtin "len") [Value.ref _]) _ _ _); k_dflt (refine' tw_len ?wN ?wm ?wC ?wh ?_; (case wN => k_asm); (case wm => k_mem); (case wC => k_asm); (case wh => omega)); (try dsimp only)))
local macro_rules | `(tactic| walk_at "subscriptTail") => `(tactic| ((with_reducible show wpAny _ _ (subscriptTail _ _ (Value.ref _) (Value.int (Int.fmod _ _) _)) _ _ _); k_dflt (refine' tw_item ?wN ?wm ?wC ?wh ?w0 ?w1 ?_ ?ws; (case wN => k_asm); (case wm => k_mem); (case wC => k_asm); (case wh => omega); (case w0 => exact fmod_lo (by omega)); (case w1 => exact fmod_hi (by omega)); (case ws => with_unfolding_all rfl)); intro c' a' t1' t2' t3' n' ec' em'; (try dsimp only)))
local macro_rules | `(tactic| walk_at "call type:zip") => `(tactic| (k_dflt (refine' zip_call ?a ?b ?c; (case a => k_asm); (case b => k_asm); (case c => exact ⟨_, rfl⟩))))
local macro_rules | `(tactic| walk_at "exec Assign cons ListComp") => `(tactic| (refine StopAt.go ?_))
local macro_rules | `(tactic| walk_at "subscriptTail Name Slice ref ref") => `(tactic| ((with_reducible show wpAny _ _ (subscriptTail _ (PySem.Expr.Slice none (some _) _ _) _ _) _ _ _); k_dflt (refine' kmk_slice_lit ?zF ?zN ?zl ?zp ?zq ?ze ?_ ?zs ?zt ?zz; (case zF => k_asm); (case zN => k_asm); (case zl => exact list_mem (by k_asm) (by k_mem)); (case zp => kmk_part); (case zq => kmk_part); (case ze => exact slice_upto (by omega) (by omega)); (case zs => with_unfolding_all rfl); (case zt => kmk_pure); (case zz => exact lenS (by assumption))); intro D' h' F' N' l1'; (try k_sweep); (try dsimp only)))
local macro_rules | `(tactic| walk_at "subscriptTail Name Slice ref ref") => `(tactic| ((with_reducible show wpAny _ _ (subscriptTail _ (PySem.Expr.Slice (some _) none _ _) _ _) _ _ _); k_dflt (refine' kmk_slice_lit ?zF ?zN ?zl ?zp ?zq ?ze ?_ ?zs ?zt ?zz; (case zF => k_asm); (case zN => k_asm); (case zl => exact list_mem (by k_asm) (by k_mem)); (case zp => kmk_part); (case zq => kmk_part); (case ze => exact slice_from (by omega) (by omega)); (case zs => with_unfolding_all rfl); (case zt => kmk_pure); (case zz => exact lenS (by assumption))); intro D' h' F' N' l1'; (try k_sweep); (try dsimp only)))
local macro_rules | `(tactic| walk_at "binaryOp Add ref ref") => `(tactic| (k_dflt (refine' add_listsL ?zF ?zN ?zl ?zb ?_ ?zz; (case zF => k_asm); (case zN => k_asm); (case zl => exact list_mem (by k_asm) (by k_mem)); (case zb => exact list_mem (by k_asm) (by k_mem)); (case zz => first | exact lenA (by assumption) | exact lenB (by assumption))); intro D' h' F' N' l1'; (try k_sweep); (try dsimp only)))
local macro_rules | `(tactic| walk_at "compareOp NotEq ref ref") => `(tactic| (refine StopAt.go ?_))
local macro_rules | `(tactic| walk_at "call ref") => `(tactic| (refine StopAt.go ?_))
set_option maxRecDepth 100000 in
set_option maxHeartbeats 4000000 in
theorem wheel_ctr : ∀ (w : World) (mean : ExcName → Option Value) (mg mb : Str → Option Value) (A : Around) (s : Shared) (Q E : Value → Shared → Prop)
   (ln : Addr) (ws : List Value) (ns : List Int)
   (_ : (hd.heap_39 w.params).In s.heap) (_ : Top hd.view_39 LO mean mg mb s.heap) (_ : A.handled = none) (_ : A.depth + 40 < recursionLimit) (_ : A.units + 400 < cLine)
   (_ : s.heap.IsList ln ws.toArray) (_ : IntsAre ws ns) (_ : ns.length ≤ 9) (_ : ∀ n ∈ ns, 0 ≤ n)
   (_ : ∀ h' tk', Kept s.heap h' → Q (.bool true) { s with heap := h', toks := tk' }),
   wpAny (model PySem.Challenge.rw_pe0137_01.row.prog w) A (call (.ref 88) [.ref ln]) Q E s := by
  w_top off
  k_fill
  intro w mean mg mb A s Q E ln ws ns X T hA hdp hun hln hints hns9 hns0 hret
  obtain ⟨ah, dp, fr, gd, un⟩ := A
  dsimp only at hA hdp hun
  subst hA
  refine wpAny_call ?_
  k_dflt (refine' enterP (binds := [(Str.ofString "numbers", .ref ln)]) ?k1 ?k2 ?k6 ?k7 ?k8 ?k9 ?kB ?_ ?c5 ?c2 ?c3 ?c4; (case k1 => k_asm); (case k2 => k_asm); (case k6 => k_is); (case k7 => k_is); (case k8 => ktr_room); (case k9 => exact BindsTo.of_eq rfl); (case kB => exact locs rfl); (case c5 => decide); (case c2 => exact rfl); (case c3 => exact rfl); (case c4 => exact rfl); k_whole; intro L' h' F' N'; (try dsimp only); (try k_fold))
  k_steps
  unfold StopAt
  rename_i iL tkA l6 hA lA l5 hB lB l4 hC lC l3 hD lD l2 hE lE l1 hF lF l0 hG lG hH Dt hI lI hJ FN NN
  k_dflt (refine' for_ints (vs := ws) (ns := ns) WJ ?fh ?fl ?fi ?fF ?fN ?fj ?_ ?_; (case fh => exact rfl); (case fl => exact hln); (case fi => exact iL); (case fF => exact FN); (case fN => exact news_swap NN); (case fj => exact ⟨l0, Dt, [.ref l6, .ref l5, .ref l4, .ref l3, .ref l2, .ref l1], 0, 0, _, corners, rfl, rfl, rfl, (by k_ne), (by k_all), colsIn_cons (by k_mem) (colsIn_cons (by k_mem) (colsIn_cons (by k_mem) (colsIn_cons (by k_mem) (colsIn_cons (by k_mem) (colsIn_cons (by k_mem) colsIn_nil))))), wheel_init⟩))
  · intro i n t m₁ news₁ h tk I oI hn hJn F N hIo
    obtain ⟨ra, ta, items, nr, nt, rest, cols, e1, e2, rfl, hne, hrest, hCi, hW⟩ := hJn
    rw [wj_frame e1 e2] at F
    clear FN NN
    have hi9 : i < 9 := by
      have := (List.getElem?_eq_some_iff.mp hn).1
      omega
    have n0 : 0 ≤ n := hns0 n (List.mem_of_getElem? hn)
    have hlen := wheel_len hW
    replace F : Fr s.heap L' h _ := F
    replace N : News s.heap L' h _ := N
    try k_fold
    k_steps
    unfold StopAt
    rename_i c₁ a₁ s1 s2 s3 nn1 ec₁ em₁ hx1 tkx1 c₂ a₂ u1 u2 u3 nn2 ec₂ em₂ hx2 FN NN
    have il₁ : hx2.IsList a₁ #[.int c₁.1 s1, .int c₁.2.1 s2, .int c₁.2.2 s3] := list_mem NN (.tail _ (.tail _ (.tail _ em₁)))
    have il₂ : hx2.IsList a₂ #[.int c₂.1 u1, .int c₂.2.1 u2, .int c₂.2.2 u3] := list_mem NN (.tail _ (.tail _ (.tail _ em₂)))
    obtain ⟨gmix, hW', hcR, hcL⟩ := wheel_mix hW hi9 ec₁ (by rw [← fmod_next (by omega)]; exact ec₂)
    k_dflt (refine' assign_zipN (l1 := a₁) (l2 := a₂) (xs := #[.int c₁.1 s1, .int c₁.2.1 s2, .int c₁.2.2 s3]) (ys := #[.int c₂.1 u1, .int c₂.2.1 u2, .int c₂.2.2 u3]) (fun i y => ∃ t, y = .int (colN c₁ i + colN c₂ i) t) FN NN ?hh ?hsz ?hxy ?hsw ?hclos ?hcell ?hkind ?hnames ?hx ?hx2 ?hxx ?hky ?hkp ?hsrc ?helt ?_ ?hs; (case hh => exact rfl); (case hsz => exact Nat.le_of_ble_eq_true rfl); (case hxy => exact rfl); (case hsw => with_unfolding_all rfl); (case hclos => with_unfolding_all rfl); (case hcell => decide); (case hkind => exact rfl); (case hnames => decide); (case hx => exact rfl); (case hx2 => exact rfl); (case hxx => decide); (case hky => exact rfl); (case hkp => exact rfl); (case hs => intro _; rfl))
    case hsrc => k_steps
    case helt =>
      intro i v1 v2 C s₂ m₂ E' q1 q2 hn n1 n2 kp
      obtain ⟨ta', rfl⟩ := col_nth q1
      obtain ⟨tb', rfl⟩ := col_nth q2
      exact elt_mix rfl rfl rfl hn n1 n2
    intro D hD' tkD vs nD hD hlen' hG FD ND
    obtain ⟨v0, v1, v2, rfl⟩ := vs3 hlen' hG
    have hDr : D ≠ ra := fun q => by have := (NN _ (.tail _ (.head _))).1; dsimp only at this hD; rw [← q, hD] at this; cases this
    have hrI : ra ≠ I := hIo _ (.head _)
    have hDI : D ≠ I := fun q => by have := (NN _ (.head _)).1; dsimp only at this hD; rw [← q, hD] at this; cases this
    have hpre : ∀ p ∈ [(D, listOf #[.int (addC c₁ c₂).1 v0, .int (addC c₁ c₂).2.1 v1, .int (addC c₁ c₂).2.2 v2] nD), (I, oI)], p.1 ≠ ra := List.forall_mem_cons.mpr ⟨hDr, List.forall_mem_cons.mpr ⟨fun q => hIo _ (.head _) q.symm, List.forall_mem_nil _⟩⟩
    have hpost : ∀ p ∈ (ta, listOf items.toArray nt) :: rest, p.1 ≠ ra := List.forall_mem_cons.mpr ⟨hne, hrest⟩
    clear FN NN il₁ il₂
    replace ND : News s.heap L' hD' ((D, listOf #[.int (addC c₁ c₂).1 v0, .int (addC c₁ c₂).2.1 v1, .int (addC c₁ c₂).2.2 v2] nD) :: (I, oI) :: (ra, listOf items.toArray nr) :: (ta, listOf items.toArray nt) :: rest) := ND
    replace FD : Fr s.heap L' hD' _ := FD
    have hgood := wheel_good hW (by omega)
    have hil := hCi.1
    have hil100 : items.length < 100 := by omega
    have hc100 : cols.length < 100 := by omega
    have hp0 := fmod_lo (n := n) (l := cols.length) (by omega)
    have hp1 := fmod_hi (n := n) (l := cols.length) (by omega)
    have hC' : ColsIn ((D, listOf #[.int (addC c₁ c₂).1 v0, .int (addC c₁ c₂).2.1 v1, .int (addC c₁ c₂).2.2 v2] nD) :: rest) (items.take ((n.fmod cols.length).toNat + 1) ++ .ref D :: items.drop ((n.fmod cols.length).toNat + 1)) (putC cols (n.fmod cols.length).toNat (addC c₁ c₂)) := colsIn_put hCi (by omega)
    obtain ⟨Lf, Rt, q1, q2, q3, q4, q5, q6⟩ := wheel_ask (ar := n.fmod 9) (ag := (n.fdiv 9).fmod 9) (ab := (n.fdiv 81).fmod 9) hW' (by omega) fmod9 fmod9 fmod9
    have hgood' := wheel_good hW' (by omega)
    have hlen2 := wheel_len hW'
    have hc200 : (putC cols (n.fmod cols.length).toNat (addC c₁ c₂)).length < 100 := by omega
    dsimp only
    k_steps
    all_goals (
      unfold StopAt
      first
        | ((with_reducible show wpAny _ _ (call (Value.ref 41) _ _) _ _ _); k_dflt (refine' insL_use (pre := [(D, listOf #[.int (addC c₁ c₂).1 v0, .int (addC c₁ c₂).2.1 v1, .int (addC c₁ c₂).2.2 v2] nD), (I, oI)]) (post := (ta, listOf items.toArray nt) :: rest) (R := (n.fmod cols.length).toNat + 1) (c := addC c₁ c₂) ?iF ?iX ?iT ?iN hpre hpost ?iA ?id ?iu hCi ?is hgood hc100 ?iR ?im gmix hcL ?_; (case iF => k_asm); (case iX => k_asm); (case iT => k_asm); (case iN => exact ND); (case iA => exact rfl); (case id => ktr_room); (case iu => ktr_units); (case is => exact fun p hp => .tail _ hp); (case iR => omega); (case im => exact .head _)))
        | ((with_reducible show wpAny _ _ (call (Value.ref 23) _ _) _ _ _); k_dflt (refine' insR_use (pre := [(D, listOf #[.int (addC c₁ c₂).1 v0, .int (addC c₁ c₂).2.1 v1, .int (addC c₁ c₂).2.2 v2] nD), (I, oI)]) (post := (ta, listOf items.toArray nt) :: rest) (R := (n.fmod cols.length).toNat + 1) (c := addC c₁ c₂) ?iF ?iX ?iT ?iN hpre hpost ?iA ?id ?iu hCi ?is hgood hc100 ?iR ?im gmix hcR ?_; (case iF => k_asm); (case iX => k_asm); (case iT => k_asm); (case iN => exact ND); (case iA => exact rfl); (case id => ktr_room); (case iu => ktr_units); (case is => exact fun p hp => .tail _ hp); (case iR => omega); (case im => exact .head _)))
      intro hE tkE FE NE
      replace NE : News s.heap L' hE ((D, listOf #[.int (addC c₁ c₂).1 v0, .int (addC c₁ c₂).2.1 v1, .int (addC c₁ c₂).2.2 v2] nD) :: (I, oI) :: (ra, listOf (items.take ((n.fmod cols.length).toNat + 1) ++ .ref D :: items.drop ((n.fmod cols.length).toNat + 1)).toArray (nr + 1)) :: (ta, listOf items.toArray nt) :: rest) := NE
      k_sweep
      k_steps
      unfold StopAt
      rename_i DT hAdd lT hQ2 FN NN
      have hTr : DT ≠ ra := Nat.ne_of_gt (lT (ra, listOf (items.take ((n.fmod cols.length).toNat + 1) ++ .ref D :: items.drop ((n.fmod cols.length).toNat + 1)).toArray (nr + 1)) (by k_mem))
      have hTI : DT ≠ I := Nat.ne_of_gt (lT (I, oI) (by k_mem))
      have N2 := news_trim NN
      clear NN lT
      simp only [List.append_assoc, List.cons_append, List.nil_append] at N2
      have sub : ∀ p ∈ (D, listOf #[.int (addC c₁ c₂).1 v0, .int (addC c₁ c₂).2.1 v1, .int (addC c₁ c₂).2.2 v2] nD) :: rest, p ∈ (DT, listOf (items.take ((n.fmod cols.length).toNat + 1) ++ .ref D :: items.drop ((n.fmod cols.length).toNat + 1)).toArray 0) :: (D, listOf #[.int (addC c₁ c₂).1 v0, .int (addC c₁ c₂).2.1 v1, .int (addC c₁ c₂).2.2 v2] nD) :: (I, oI) :: (ra, listOf (items.take ((n.fmod cols.length).toNat + 1) ++ .ref D :: items.drop ((n.fmod cols.length).toNat + 1)).toArray (nr + 1)) :: rest := fun p hp => by
        rcases List.mem_cons.mp hp with rfl | hp
        · exact .tail _ (.head _)
        · exact .tail _ (.tail _ (.tail _ (.tail _ hp)))
      k_dflt (refine' ne_rows (cols := putC cols (n.fmod cols.length).toNat (addC c₁ c₂)) ?r1 ?r2 ?ru ?_; (case r1 => exact rowNow N2 (.tail _ (.tail _ (.tail _ (.head _)))) hC' sub); (case r2 => exact rowNow N2 (.head _) hC' sub); (case ru => ktr_units))
      k_steps
      unfold StopAt
      k_dflt (refine' laid_ctr _ _ _ _ _ _ _ _ _ _ _ _ _ _ _ _ _ _ Lf Rt ?X ?T ?h1 ?h2 ?h3 ?hrow hgood' hc200 ?hla fmod9 fmod9 fmod9 ?ok q1 q2 q3 q4 q5 q6 ?_; (case X => k_in); (case T => exact lift_top (by k_asm) (by k_asm)); (case h1 => exact rfl); (case h2 => ktr_room); (case h3 => ktr_units); (case hrow => exact rowNow (by k_asm) (by k_mem) hC' (fun p hp => .tail _ (sub p hp))); (case hla => exact list_mem (by k_asm) (by k_mem)); (case ok => exact hls_ok fmod9 fmod9 fmod9))
      intro hZ tkZ kZ
      obtain ⟨FZ, NZ⟩ := kept_use (by k_asm) (by k_asm) kZ
      k_sweep
      dsimp only
      k_steps
      exact ⟨_, _, _, (ra, listOf (items.take ((n.fmod cols.length).toNat + 1) ++ .ref D :: items.drop ((n.fmod cols.length).toNat + 1)).toArray (nr + 1)) :: (DT, listOf (items.take ((n.fmod cols.length).toNat + 1) ++ .ref D :: items.drop ((n.fmod cols.length).toNat + 1)).toArray 0) :: (D, listOf #[.int (addC c₁ c₂).1 v0, .int (addC c₁ c₂).2.1 v1, .int (addC c₁ c₂).2.2 v2] nD) :: rest, rfl, FZ, news_end NZ, List.forall_mem_cons.mpr ⟨hrI, List.forall_mem_cons.mpr ⟨hTI, List.forall_mem_cons.mpr ⟨hDI, fun p hp => hIo p (.tail _ (.tail _ hp))⟩⟩⟩,
        ⟨ra, DT, _, _, _, _, _, rfl, rfl, rfl, hTr, List.forall_mem_cons.mpr ⟨hDr, hrest⟩, hC', hW'⟩⟩)
  · intro m₁ news₁ h tk hJn F N
    replace F : Fr s.heap L' h _ := F
    replace N : News s.heap L' h _ := N
    clear FN NN
    dsimp only
    k_steps
    all_goals exact hret _ _ (Fr.keep (by assumption))
end Mine
end PartMI
open PySem PySem.W PyProof.Rows PySem.Flt
namespace Mine
theorem nums_len (ns : List Int) : (List.map (fun k' : Int => k'.fmod (10 ^ Int.toNat 6)) (List.take 5 ns) ++ [539, 5520, 4738, 389]).length ≤ 9 := by
  rw [List.length_append, List.length_map, List.length_take]
  simp only [List.length_cons, List.length_nil]
  omega
theorem nums_nonneg (ns : List Int) : ∀ n ∈ List.map (fun k' : Int => k'.fmod (10 ^ Int.toNat 6)) (List.take 5 ns) ++ [539, 5520, 4738, 389], 0 ≤ n := by
  intro n hn
  rcases List.mem_append.mp hn with h | h
  · obtain ⟨k, _, rfl⟩ := List.mem_map.mp h
    exact Int.fmod_nonneg_of_pos _ (by decide)
  · simp only [List.mem_cons, List.not_mem_nil, or_false] at h
    omega
end Mine
open Mine in
local macro_rules | `(tactic| walk_at "call ref") => `(tactic| ((with_reducible show wpAny _ _ (call (Value.ref 88) _) _ _ _); k_dflt (refine' wheel_ctr _ _ _ _ _ _ _ _ _ _ _ ?X ?T ?h1 ?h2 ?h3 ?hl ?hi ?h9 ?h0 ?_; (case X => k_in); (case T => exact lift_top (by k_asm) (by k_asm)); (case h1 => exact rfl); (case h2 => exact Nat.le_of_ble_eq_true rfl); (case h3 => exact Nat.le_of_ble_eq_true rfl); (case hl => exact list_mem (by k_asm) (by k_mem)); (case hi => k_asm); (case h9 => exact nums_len _); (case h0 => exact nums_nonneg _)); intro h' tk' k'; (obtain ⟨F', N'⟩ := kept_use (by k_asm) (by k_asm) k'); (try k_sweep); (try dsimp only)))
set_option maxRecDepth 100000 in
set_option maxHeartbeats 8000000 in
theorem PySem.Challenge.cw_pe0137_01_holds : PySem.Challenge.rw_pe0137_01.Holds :=
  Mine.hd (by w_strict k_go)
