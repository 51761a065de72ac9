import PyProof.Rows.All
import Wide.All
import OpenK.AllK
import Wide.FinOn
import Lean
import PySem.Challenge.RW_pe0059_01
open PySem PySem.W PyProof.Rows PySem.Calls PySem.Flt
set_option Elab.async false
set_option maxRecDepth 100000
set_option maxHeartbeats 8000000
set_option rowWalk.seconds 0
set_option exponentiation.threshold 3000
set_option compiler.extract_closed false
namespace Mine
open_top hd for PySem.Challenge.rw_pe0059_01
theorem lines_off : True := by
  w_top off
  exact trivial
/-- every object of the one heap stands in the other -/
abbrev Keeps (h h' : Heap) : Prop := ∀ b o, h.get? b = some o → h'.get? b = some o
theorem keeps_trans {a b c : Heap} (h : Keeps a b) (k : Keeps b c) : Keeps a c := fun x o e => k x o (h x o e)
section
variable {prog : Program} {w : World} {A : Around} {s : Shared} {K : Frag} {Q E : Value → Shared → Prop} {name qual : Str} {params : Arguments} {body : List Stmt} {scope : Scope} {dV kV doc pm cdv ct oc : Value} {an od : Option Addr} {osl : Array (Option Value)} {f : Addr} {vs : List Value} {binds : List (Str × Value)}
  {p : Program} {loose : List Str} {mean : ExcName → Option Value} {mg mb : Str → Option Value}
/-- a def is entered upon the whole heap as it stands -/
theorem call_frz (X : K.In s.heap) (T : Top p loose mean mg mb s.heap)
    (ho : K.lookup f = some ⟨oc, od, .func (fnOf name qual params body scope dV kV doc pm an cdv ct), osl⟩) (hcd : codeIn K cdv qual = true) (hroom : A.depth < recursionLimit)
    (hbind : BindsTo s (fnOf name qual params body scope dV kV doc pm an cdv ct) ⟨vs, []⟩ binds) (hloc : ∀ y ∈ binds, scope.names.lookup y.1 = some .local)
    (h : ∀ L' h₁, Fr s.heap L' h₁ (fun y => binds.reverse.lookup y) → News s.heap L' h₁ [] →
      wpAny (model prog w) (A.deeper (envOf qual scope L' f cdv)) (execs body (envOf qual scope L' f cdv))
        (fun fl s' => Q (match fl with | .ret v => v | _ => .none) s')
        (fun e s' => wpAny (model prog w) (A.deeper (envOf qual scope L' f cdv)) (leaving (envOf qual scope L' f cdv) e) (fun _ s'' => E e s'') (fun e' s'' => E e' s'') s')
        { s with heap := h₁, toks := s.toks + binds.length })
    (hcell : ∀ x ∈ scope.names, x.2 ≠ .cell) (hco : scope.isCoroutine = false) (hgen : scope.isGenerator = false) (hk : scope.kind = .function) :
    wpAny (model prog w) A (call (.ref f) vs) Q E s := by
  refine wpAny_call ?_
  refine codeAny_call_def (fd := fnOf name qual params body scope dV kV doc pm an cdv ct) (body := body) (binds := binds) hroom (X _ _ ho) rfl T.nolimit (codeRec_of X hcd) rfl hbind hcell hloc (fun h₁ hns hk₁ => ?_) hco hgen hk
  exact h _ h₁ ⟨hns, hk₁, Nat.le_refl _⟩ News.nil
end
/-- the greatest of three floats, as max tells it -/
noncomputable def fmax3 (x y z : UInt64) : UInt64 := if (Float64.cmp x y == some .lt) = true then (if (Float64.cmp y z == some .lt) = true then z else y) else (if (Float64.cmp x z == some .lt) = true then z else x)
noncomputable def fmin3 (x y z : UInt64) : UInt64 := if (Float64.cmp y x == some .lt) = true then (if (Float64.cmp z y == some .lt) = true then z else y) else (if (Float64.cmp z x == some .lt) = true then z else x)
section
variable {prog : Program} {w : World} {A : Around} {E : Value → Shared → Prop} {s : Shared} {Q : Value → Shared → Prop} {a b c : Value} {h₀ : Heap} {L : Addr} {m : Str → Option Value} {news : List (Addr × Obj)}
theorem ltV_ff {x y : UInt64} {t u : Tok} : ltV (.float x t) (.float y u) = (Float64.cmp x y == some .lt) := rfl
/-- the three arguments as a tuple, and the walk over it that max and min ask: what stood, stands -/
theorem three_walk {op : CmpOp} {bt : Nat → Nat → Bool} (hh : A.handled = none) (hc : CmpOf prog w A.in1 op (fun i v => (#[a, b, c] : Array Value)[i]? = some v) bt)
    (h : ∀ v h' tk, (#[a, b, c] : Array Value)[argBest bt 2]? = some v → Keeps s.heap h' → Q v { s with heap := h', toks := tk }) :
    wpAny (model prog w) A.in1 (pyIter (.ref s.heap.objs.size)) (fun it s₂ => ∃ I fp wr n P St bt, it = .ref I ∧ Walks prog w A.in1 I fp wr n P St ∧ St 0 s₂.heap ∧ (∀ b ∈ fp, b < s₂.heap.objs.size) ∧ 0 < n ∧ CmpOf prog w A.in1 op P bt ∧
      ∀ v h' tk, P (argBest bt (n - 1)) v → (∀ b o, b ∉ wr → s₂.heap.get? b = some o → h'.get? b = some o) → Q v { s₂ with heap := h', toks := tk }) E
      { s with heap := s.heap.push { cls := .type "tuple", data := .seq #[a, b, c] } } := by
  have one : ∀ o : Obj, (s.heap.push o).objs.size = s.heap.objs.size + 1 := fun o => Heap.size_push ..
  have tup : (s.heap.push { cls := .type "tuple", data := .seq #[a, b, c] }).IsTuple s.heap.objs.size #[a, b, c] := ⟨_, Heap.get?_push_size _ rfl, rfl, 0, rfl⟩
  refine wpAny_pyIter_tuple tup ⟨_, _, _, _, _, _, bt, rfl, Walks.tuple (A := A.in1) hh _ _ (by rw [one]; exact Nat.ne_of_lt (Nat.lt_succ_self _)) _, ⟨⟨_, Heap.get?_push_size _ rfl, rfl, rfl⟩, tup.push _⟩, List.forall_mem_cons.mpr ⟨?_, List.forall_mem_cons.mpr ⟨?_, List.forall_mem_nil _⟩⟩, Nat.succ_pos 2, hc, fun v h' tk hv hk => h v h' tk hv fun d o e => ?_⟩
  · exact Nat.lt_of_lt_of_eq (Nat.lt_succ_self _) (Heap.size_push ..).symm
  · exact Nat.lt_of_lt_of_eq (Nat.lt_succ_of_lt (Nat.lt_of_lt_of_eq (Nat.lt_succ_self _) (one _).symm)) (Heap.size_push ..).symm
  · refine hk d o (fun hm => ?_) (Heap.get?_push_of_some _ (Heap.get?_push_of_some _ e))
    have lt := Heap.lt_size e
    rw [List.mem_singleton.mp hm, one] at lt
    exact absurd lt (Nat.not_lt_of_le (Nat.le_succ _))
theorem max_three_ff {x y z : UInt64} {t u v : Tok} (hh : A.handled = none) (F : Fr h₀ L s.heap m) (N : News h₀ L s.heap news)
    (h : ∀ h' tk v', Fr h₀ L h' m → News h₀ L h' news → Q (.float (fmax3 x y z) v') { s with heap := h', toks := tk }) :
    wpAny (model prog w) A (call (.builtin "max") [.float x t, .float y u, .float z v]) Q E s := by
  refine call_max_three (three_walk hh (cmpOf_gt _ (by simp [NumV.float])) fun r h' tk hr k => ?_)
  have e : ∃ t', r = .float (fmax3 x y z) t' := by
    unfold fmax3
    cases h1 : (Float64.cmp x y == some .lt) <;> cases h2 : (Float64.cmp y z == some .lt) <;> cases h3 : (Float64.cmp x z == some .lt) <;> simp [argBest, ltV_ff, h1, h2, h3] at hr <;> exact ⟨_, hr.symm⟩
  obtain ⟨t', rfl⟩ := e
  exact h h' tk t' (F.grownK k) (N.grown k)
theorem min_three_ff {x y z : UInt64} {t u v : Tok} (hh : A.handled = none) (F : Fr h₀ L s.heap m) (N : News h₀ L s.heap news)
    (h : ∀ h' tk v', Fr h₀ L h' m → News h₀ L h' news → Q (.float (fmin3 x y z) v') { s with heap := h', toks := tk }) :
    wpAny (model prog w) A (call (.builtin "min") [.float x t, .float y u, .float z v]) Q E s := by
  refine call_min_three (three_walk hh (cmpOf_lt _ (by simp [NumV.float])) fun r h' tk hr k => ?_)
  have e : ∃ t', r = .float (fmin3 x y z) t' := by
    unfold fmin3
    cases h1 : (Float64.cmp y x == some .lt) <;> cases h2 : (Float64.cmp z y == some .lt) <;> cases h3 : (Float64.cmp z x == some .lt) <;> simp [argBest, ltV_ff, h1, h2, h3] at hr <;> exact ⟨_, hr.symm⟩
  obtain ⟨t', rfl⟩ := e
  exact h h' tk t' (F.grownK k) (N.grown k)
end
local macro_rules | `(tactic| walk_at "call builtin:max") => `(tactic| (k_here; (with_reducible show wpAny _ _ (call (Value.builtin _) [Value.float _ _, Value.float _ _, Value.float _ _]) _ _ _); (with_unfolding_all refine' max_three_ff ?k1 ?k2 ?k3 ?_; (case k1 => with_unfolding_all rfl); (case k2 => k_asm); (case k3 => k_asm); k_whole); intro h' tk' v' F' N'; (try k_sweep)))
local macro_rules | `(tactic| walk_at "call builtin:min") => `(tactic| (k_here; (with_reducible show wpAny _ _ (call (Value.builtin _) [Value.float _ _, Value.float _ _, Value.float _ _]) _ _ _); (with_unfolding_all refine' min_three_ff ?k1 ?k2 ?k3 ?_; (case k1 => with_unfolding_all rfl); (case k2 => k_asm); (case k3 => k_asm); k_whole); intro h' tk' v' F' N'; (try k_sweep)))

abbrev Ar (dp un : Nat) (fr : Option (List Env)) (gd : Option (List Code)) : Around := { handled := none, depth := dp, frames := fr, guards := gd, units := un }
abbrev tupOf (vs : List Value) (n : Nat) : Obj := { cls := .type "tuple", data := .seq vs.toArray n }
/-- 2.0, 4.0, 6.0, 1.0, 0.5 as bits -/
noncomputable def hueRaw (r g b M m : UInt64) : UInt64 :=
  if (Float64.cmp r M == some .eq) = true then Float64.sub (Float64.div (Float64.sub M b) (Float64.sub M m)) (Float64.div (Float64.sub M g) (Float64.sub M m))
  else if (Float64.cmp g M == some .eq) = true then Float64.sub (Float64.add 4611686018427387904 (Float64.div (Float64.sub M r) (Float64.sub M m))) (Float64.div (Float64.sub M b) (Float64.sub M m))
  else Float64.sub (Float64.add 4616189618054758400 (Float64.div (Float64.sub M g) (Float64.sub M m))) (Float64.div (Float64.sub M r) (Float64.sub M m))
noncomputable def hueOf (r g b M m : UInt64) : UInt64 := (Float64.divmod (Float64.div (hueRaw r g b M m) 4618441417868443648) 4607182418800017408).snd
/-- the saturation as rgb_to_hls tells it -/
noncomputable def satOf (M m : UInt64) : UInt64 :=
  if (Float64.cmp (Float64.div (Float64.add M m) 4611686018427387904) 4602678819172646912 == some .lt || Float64.cmp (Float64.div (Float64.add M m) 4611686018427387904) 4602678819172646912 == some .eq) = true then Float64.div (Float64.sub M m) (Float64.add M m)
  else Float64.div (Float64.sub M m) (Float64.sub (Float64.sub 4611686018427387904 M) m)
theorem hsv_call {w : World} {mean : ExcName → Option Value} {mg mb : Str → Option Value} {dp un : Nat} {fr : Option (List Env)} {gd : Option (List Code)} {s : Shared} {Q E : Value → Shared → Prop}
   (X : (hd.heap_39 w.params).In s.heap) (T : Top hd.view_39 (looseW hd.view_39 []) mean mg mb s.heap) (hdp : dp < recursionLimit)
   (r g b : UInt64) (t u v : Tok) (h1 : (Float64.cmp (fmin3 r g b) (fmax3 r g b) == some .eq) = false) (h2 : ¬ Float64.isZero (Float64.sub (fmax3 r g b) (fmin3 r g b)) = true) (h3 : ¬ Float64.isZero (fmax3 r g b) = true)
   (hret : ∀ a h' tk t1 t2 t3 x, Keeps s.heap h' → h'.get? a = some (tupOf [.float x t1, .float (Float64.div (Float64.sub (fmax3 r g b) (fmin3 r g b)) (fmax3 r g b)) t2, .float (fmax3 r g b) t3] 0) → s.heap.get? a = none → x = hueOf r g b (fmax3 r g b) (fmin3 r g b) → Q (.ref a) { s with heap := h', toks := tk }) :
   wpAny (model PySem.Challenge.rw_pe0059_01.row.prog w) (Ar dp un fr gd) (call (.ref 28) [.float r t, .float g u, .float b v]) Q E s := by
  k_dflt (refine' call_frz (binds := [(Str.ofString "r", .float r t), (Str.ofString "g", .float g u), (Str.ofString "b", .float b v)]) X T ?k3 ?k4 hdp ?k6 ?k7 ?_ ?c1 ?c2 ?c3 ?c4; (case k3 => k_is); (case k4 => k_is); (case k6 => exact BindsTo.of_eq rfl); (case k7 => exact locs rfl); (case c1 => decide); (case c2 => exact rfl); (case c3 => exact rfl); (case c4 => exact rfl); k_whole; intro L' h' F' N'; (try dsimp only); (try k_fold))
  k_steps
  all_goals (try k_data)
  all_goals (dsimp only [qk]; rename News _ _ _ _ => hN; rename Fr _ _ _ _ => hF; refine hret _ _ _ _ _ _ _ hF.keep (hN _ (List.Mem.head _)).1 (hN _ (List.Mem.head _)).2.2 ?_; unfold hueOf hueRaw; (repeat' split) <;> first | rfl | (simp_all; done))
theorem hls_call {w : World} {mean : ExcName → Option Value} {mg mb : Str → Option Value} {dp un : Nat} {fr : Option (List Env)} {gd : Option (List Code)} {s : Shared} {Q E : Value → Shared → Prop}
   (X : (hd.heap_39 w.params).In s.heap) (T : Top hd.view_39 (looseW hd.view_39 []) mean mg mb s.heap) (hdp : dp < recursionLimit)
   (r g b : UInt64) (t u v : Tok) (h1 : (Float64.cmp (fmin3 r g b) (fmax3 r g b) == some .eq) = false) (h2 : ¬ Float64.isZero (Float64.sub (fmax3 r g b) (fmin3 r g b)) = true) (h3 : ¬ Float64.isZero (Float64.add (fmax3 r g b) (fmin3 r g b)) = true) (h4 : ¬ Float64.isZero (Float64.sub (Float64.sub 4611686018427387904 (fmax3 r g b)) (fmin3 r g b)) = true)
   (hret : ∀ a h' tk t1 t2 t3 x y, Keeps s.heap h' → h'.get? a = some (tupOf [.float x t1, .float (Float64.div (Float64.add (fmax3 r g b) (fmin3 r g b)) 4611686018427387904) t2, .float y t3] 0) → s.heap.get? a = none → y = satOf (fmax3 r g b) (fmin3 r g b) → x = hueOf r g b (fmax3 r g b) (fmin3 r g b) → Q (.ref a) { s with heap := h', toks := tk }) :
   wpAny (model PySem.Challenge.rw_pe0059_01.row.prog w) (Ar dp un fr gd) (call (.ref 21) [.float r t, .float g u, .float b v]) Q E s := by
  k_dflt (refine' call_frz (binds := [(Str.ofString "r", .float r t), (Str.ofString "g", .float g u), (Str.ofString "b", .float b v)]) X T ?k3 ?k4 hdp ?k6 ?k7 ?_ ?c1 ?c2 ?c3 ?c4; (case k3 => k_is); (case k4 => k_is); (case k6 => exact BindsTo.of_eq rfl); (case k7 => exact locs rfl); (case c1 => decide); (case c2 => exact rfl); (case c3 => exact rfl); (case c4 => exact rfl); k_whole; intro L' h' F' N'; (try dsimp only); (try k_fold))
  k_steps
  all_goals (try k_data)
  all_goals (dsimp only [qk]; rename News _ _ _ _ => hN; rename Fr _ _ _ _ => hF; refine hret _ _ _ _ _ _ _ _ hF.keep (hN _ (List.Mem.head _)).1 (hN _ (List.Mem.head _)).2.2 ?_ ?_ <;> (first | unfold satOf | unfold hueOf hueRaw) <;> (repeat' split) <;> first | rfl | (simp_all; done))
theorem hsv_call2 {w : World} {mean : ExcName → Option Value} {mg mb : Str → Option Value} {dp un : Nat} {fr : Option (List Env)} {gd : Option (List Code)} {s : Shared} {Q E : Value → Shared → Prop}
   (X : (hd.heap_39 w.params).In s.heap) (T : Top hd.view_39 (looseW hd.view_39 []) mean mg mb s.heap) (hdp : dp < recursionLimit)
   {r g b M m : UInt64} {t u v : Tok} (e1 : fmax3 r g b = M) (e2 : fmin3 r g b = m) (h1 : (Float64.cmp m M == some .eq) = false) (h2 : ¬ Float64.isZero (Float64.sub M m) = true) (h3 : ¬ Float64.isZero M = true)
   (hret : ∀ a h' tk t1 t2 t3, Keeps s.heap h' → h'.get? a = some (tupOf [.float (hueOf r g b M m) t1, .float (Float64.div (Float64.sub M m) M) t2, .float M t3] 0) → s.heap.get? a = none → Q (.ref a) { s with heap := h', toks := tk }) :
   wpAny (model PySem.Challenge.rw_pe0059_01.row.prog w) (Ar dp un fr gd) (call (.ref 28) [.float r t, .float g u, .float b v]) Q E s := by
  subst e1 e2
  exact hsv_call X T hdp r g b t u v h1 h2 h3 fun a h' tk t1 t2 t3 x k ha hn e => hret a h' tk t1 t2 t3 k (e ▸ ha) hn
theorem hls_call2 {w : World} {mean : ExcName → Option Value} {mg mb : Str → Option Value} {dp un : Nat} {fr : Option (List Env)} {gd : Option (List Code)} {s : Shared} {Q E : Value → Shared → Prop}
   (X : (hd.heap_39 w.params).In s.heap) (T : Top hd.view_39 (looseW hd.view_39 []) mean mg mb s.heap) (hdp : dp < recursionLimit)
   {r g b M m : UInt64} {t u v : Tok} (e1 : fmax3 r g b = M) (e2 : fmin3 r g b = m) (h1 : (Float64.cmp m M == some .eq) = false) (h2 : ¬ Float64.isZero (Float64.sub M m) = true) (h3 : ¬ Float64.isZero (Float64.add M m) = true) (h4 : ¬ Float64.isZero (Float64.sub (Float64.sub 4611686018427387904 M) m) = true)
   (hret : ∀ a h' tk t1 t2 t3, Keeps s.heap h' → h'.get? a = some (tupOf [.float (hueOf r g b M m) t1, .float (Float64.div (Float64.add M m) 4611686018427387904) t2, .float (satOf M m) t3] 0) → s.heap.get? a = none → Q (.ref a) { s with heap := h', toks := tk }) :
   wpAny (model PySem.Challenge.rw_pe0059_01.row.prog w) (Ar dp un fr gd) (call (.ref 21) [.float r t, .float g u, .float b v]) Q E s := by
  subst e1 e2
  exact hls_call X T hdp r g b t u v h1 h2 h3 h4 fun a h' tk t1 t2 t3 x y k ha hn e e' => hret a h' tk t1 t2 t3 k (e ▸ e' ▸ ha) hn
/-- the quotient of two ints as a float -/
noncomputable def iq (a b : Int) : UInt64 := Float64.ofFrac (decide (a < 0) != decide (b < 0)) a.natAbs b.natAbs
section
variable {prog : Program} {w : World} {A : Around} {E : Value → Shared → Prop} {s : Shared} {Q : Value → Shared → Prop} {h₀ : Heap} {L : Addr} {m : Str → Option Value} {news : List (Addr × Obj)}
theorem div_iq {a b : Int} {t u : Tok} (hA : A.handled = none) (hb : b ≠ 0) (hfit : a.natAbs < 2 ^ 1023) (h : Q (.float (iq a b) s.toks) { s with toks := s.toks + 1 }) :
    wpAny (model prog w) A (binaryOp .Div (.int a t) (.int b u)) Q E s := div_ii_fits hA hfit (fun e => absurd e hb) fun _ _ => h
theorem max_list3 {l : Addr} {a b c M : Int} {t u v : Tok} (hh : A.handled = none) (F : Fr h₀ L s.heap m) (N : News h₀ L s.heap news) (hl : s.heap.IsList l #[.int a t, .int b u, .int c v])
    (hM : a ≤ M ∧ b ≤ M ∧ c ≤ M ∧ (M = a ∨ M = b ∨ M = c)) (h : ∀ h' (t : Tok) tk, Fr h₀ L h' m → News h₀ L h' news → Q (.int M t) { s with heap := h', toks := tk }) :
    wpAny (model prog w) A (call (.builtin "max") [.ref l]) Q E s := by
  refine max_list_N (vs := [.int a t, .int b u, .int c v]) (ns := [a, b, c]) hh F N hl ?_ (by simp) fun h' M' t' tk F' N' h1 h2 => ?_
  · exact .cons _ _ (.cons _ _ (.cons _ _ .nil))
  · simp only [List.mem_cons, List.not_mem_nil, or_false, forall_eq_or_imp, forall_eq] at h1 h2
    have : M' = M := by omega
    subst this
    exact h h' t' tk F' N'
theorem min_list3 {l : Addr} {a b c M : Int} {t u v : Tok} (hh : A.handled = none) (F : Fr h₀ L s.heap m) (N : News h₀ L s.heap news) (hl : s.heap.IsList l #[.int a t, .int b u, .int c v])
    (hM : M ≤ a ∧ M ≤ b ∧ M ≤ c ∧ (M = a ∨ M = b ∨ M = c)) (h : ∀ h' (t : Tok) tk, Fr h₀ L h' m → News h₀ L h' news → Q (.int M t) { s with heap := h', toks := tk }) :
    wpAny (model prog w) A (call (.builtin "min") [.ref l]) Q E s := by
  refine min_list_N (vs := [.int a t, .int b u, .int c v]) (ns := [a, b, c]) hh F N hl ?_ (by simp) fun h' M' t' tk F' N' h1 h2 => ?_
  · exact .cons _ _ (.cons _ _ (.cons _ _ .nil))
  · simp only [List.mem_cons, List.not_mem_nil, or_false, forall_eq_or_imp, forall_eq] at h1 h2
    have : M' = M := by omega
    subst this
    exact h h' t' tk F' N'
theorem item_mem {value slice : PySem.Expr} {l : Addr} {vs : List Value} {n : Nat} {k : Int} {u : Tok} {v : Value} (N : News h₀ L s.heap news) (hm : (l, listOf vs.toArray n) ∈ news) (h0 : 0 ≤ k) (hhi : k < 2 ^ 63) (hx : vs[k.toNat]? = some v) (h : Q v s)
    (hs : subscripted slice false (.ref l) (.int k u) = operate [.ref l, .int k u] (getItem (.ref l) (.int k u)) := by with_unfolding_all rfl) :
    wpAny (model prog w) A (subscriptTail value slice (.ref l) (.int k u)) Q E s := item_litK ⟨_, (N _ hm).1, rfl, n, rfl⟩ h0 hhi hx h hs
theorem isTup_mem {h : Heap} {l : Addr} {its : Array Value} {n : Nat} (N : News h₀ L h news) (hm : (l, ({ cls := .type "tuple", data := .seq its n } : Obj)) ∈ news) : IsTup h l its := ⟨_, (N _ hm).1, rfl, n, rfl⟩
theorem unpack_mem {env : Env} {elts : List PySem.Expr} {k} {pos : Pos} {t : Addr} {its : Array Value} {n : Nat} {Q : Unit → Shared → Prop} (F : Fr h₀ L s.heap m) (N : News h₀ L s.heap news) (hm : (t, ({ cls := .type "tuple", data := .seq its n } : Obj)) ∈ news)
    (hh : A.handled = none) (hn : (assignEach elts env).length = its.size) (hstar : (assignEach elts env).findIdx? (·.1) = none)
    (h : ∀ h', Fr h₀ L h' m → News h₀ L h' news → wpAny (model prog w) A (assignInOrder ((assignEach elts env).map (·.2)) its.toList) Q E { s with heap := h' }) :
    wpAny (model prog w) A (assign (.Tuple elts k pos) env (.ref t)) Q E s := unpackN_ F N (isTup_mem N hm) hh hn hstar h
theorem item_arr {value slice : PySem.Expr} {l : Addr} {its : Array Value} {n : Nat} {k : Int} {u : Tok} {v : Value} (N : News h₀ L s.heap news) (hm : (l, listOf its n) ∈ news) (h0 : 0 ≤ k) (hhi : k < 2 ^ 63) (hx : its.toList[k.toNat]? = some v) (h : Q v s)
    (hs : subscripted slice false (.ref l) (.int k u) = operate [.ref l, .int k u] (getItem (.ref l) (.int k u)) := by with_unfolding_all rfl) :
    wpAny (model prog w) A (subscriptTail value slice (.ref l) (.int k u)) Q E s := item_mem (vs := its.toList) N hm h0 hhi hx h hs
theorem item_ints {value slice : PySem.Expr} {l : Addr} {vs : List Value} {ns : List Int} {n : Nat} {k : Int} {u : Tok} (N : News h₀ L s.heap news) (hm : (l, listOf vs.toArray n) ∈ news) (hi : IntsAre vs ns) (h0 : 0 ≤ k) (hhi : k < 2 ^ 63) (hk : k.toNat < ns.length) (h : ∀ t, Q (.int (ns.getD k.toNat 0) t) s)
    (hs : subscripted slice false (.ref l) (.int k u) = operate [.ref l, .int k u] (getItem (.ref l) (.int k u)) := by with_unfolding_all rfl) :
    wpAny (model prog w) A (subscriptTail value slice (.ref l) (.int k u)) Q E s := item_anyK ⟨_, (N _ hm).1, rfl, n, rfl⟩ hi h0 (by omega) hhi h hs
theorem newList_ints {vs : List Value} {ns : List Int} (F : Fr h₀ L s.heap m) (N : News h₀ L s.heap news) (hi : IntsAre vs ns) (hz : vs.length ≤ sizeLine)
    (h : ∀ l ws h', Fr h₀ L h' m → News h₀ L h' ((l, listOf (List.toArray ws) 0) :: news) → (∀ p ∈ news, p.1 < l) → IntsAre ws ns → Q (.ref l) { s with heap := h' }) : wpAny (model prog w) A (newList vs) Q E s :=
  newList_K F N (fun l h' F' N' l1 => h l vs h' F' N' l1 hi) hz
theorem slice_from {value slice : PySem.Expr} {l : Addr} {vs : List Value} {ns : List Int} {n : Nat} {k : Int} {u : Tok} (F : Fr h₀ L s.heap m) (N : News h₀ L s.heap news) (hm : (l, listOf vs.toArray n) ∈ news) (hi : IntsAre vs ns) (hk : 0 ≤ k) (hz : ns.length ≤ 1000)
    (h : ∀ D ws h', Fr h₀ L h' m → News h₀ L h' ((D, listOf (List.toArray ws) 0) :: news) → (∀ p ∈ news, p.1 < D) → IntsAre ws (ns.drop k.toNat) → Q (.ref D) { s with heap := h' })
    (hs : subscripted slice false (.ref l) (.ref s.heap.objs.size) = operate [.ref s.heap.objs.size, .ref l] (getItem (.ref l) (.ref s.heap.objs.size))) (ht : ∀ r, letTemporaryGo value (.ref l) r = pure ()) :
    wpAny (model prog w) A (subscriptTail value slice (.ref l) (.ref s.heap.objs.size)) Q E { s with heap := s.heap.push { cls := .type "slice", data := .fields #[.int k u, .none, .none] } } :=
  kmk_slice_ints F N ⟨_, (N _ hm).1, rfl, n, rfl⟩ (IsPart.int _ _) IsPart.none hi (kmk_from hi hk) rfl (fun D ws h' F' N' l1 hI _ _ => h D ws h' F' N' l1 hI) hs ht (by rw [List.size_toArray, hi.length, sizeLine_eq]; omega)
theorem isList_mem {h : Heap} {l : Addr} {its : Array Value} {n : Nat} (N : News h₀ L h news) (hm : (l, listOf its n) ∈ news) : h.IsList l its := ⟨_, (N _ hm).1, rfl, n, rfl⟩
/-- what a frozen call gives back to the frame that called: an object on its ledger -/
theorem news_back {h h' : Heap} {a : Addr} {o : Obj} (F : Fr h₀ L h m) (N : News h₀ L h news) (k : Keeps h h') (ha : h'.get? a = some o) (hn : h.get? a = none) : News h₀ L h' ((a, o) :: news) := by
  intro p hp
  rcases List.mem_cons.mp hp with rfl | hp
  · refine ⟨ha, fun e => ?_, ?_⟩
    · obtain ⟨⟨oL, es, ep, hL, _⟩, _, _⟩ := F
      rw [show a = L from e] at hn; rw [hn] at hL; cases hL
    · cases q : h₀.get? a with
      | none => rfl
      | some o' => have := F.keep _ _ q; rw [hn] at this; cases this
  · exact News.grown N k p hp
end
local macro_rules | `(tactic| walk_at "mine mem") => `(tactic| first | with_reducible assumption | exact List.Mem.head _ | (refine List.mem_cons_of_mem _ ?_; walk_at "mine mem"))
local macro_rules | `(tactic| walk_at "mine list") => `(tactic| first | (exact Heap.IsList.at (by with_reducible assumption) (fun o e => Fr.keep (by k_asm) _ o e)) | (refine' isList_mem (by k_asm) ?k9; (case k9 => walk_at "mine mem")) | (exact Heap.IsList.at (by assumption) (fun o e => Fr.keep (by k_asm) _ o e)))
local macro_rules | `(tactic| walk_at "mine item") => `(tactic| (k_here; (with_reducible show wpAny _ _ (subscriptTail _ _ (Value.ref _) (Value.int _ _)) _ _ _); first
  | (with_unfolding_all refine' item_mem ?k0 ?k1 ?k2 ?k3 ?k4 ?_; (case k0 => k_asm); (case k1 => walk_at "mine mem"); (case k2 => decide); (case k3 => decide); (case k4 => exact rfl); k_whole)
  | (with_unfolding_all refine' item_litK ?k1 ?k2 ?k3 ?k4 ?_; (case k1 => walk_at "mine list"); (case k2 => decide); (case k3 => decide); (case k4 => exact rfl); k_whole)))
local macro_rules | `(tactic| walk_at "subscriptTail Name Constant ref int") => `(tactic| (walk_at "mine item"; (try dsimp only)))
local macro_rules | `(tactic| walk_at "subscriptTail Name Name ref int") => `(tactic| (walk_at "mine item"; (try dsimp only)))
local macro_rules | `(tactic| walk_at "subscriptTail Name BinOp ref int") => `(tactic| (walk_at "mine item"; (try dsimp only)))
local macro_rules | `(tactic| walk_at "binaryOp Div int int") => `(tactic| (k_here; (with_unfolding_all refine' div_iq ?k1 ?k2 ?k3 ?_; (case k1 => with_unfolding_all rfl); (case k2 => first | decide | lia); (case k3 => first | decide +kernel | lia); k_whole); (try dsimp only)))
local macro_rules | `(tactic| walk_at "call builtin:max") => `(tactic| (k_here; (with_reducible show wpAny _ _ (call (Value.builtin _) [Value.ref _]) _ _ _); (with_unfolding_all refine' max_list3 ?k1 ?k2 ?k3 ?k4 ?k5 ?_; (case k1 => with_unfolding_all rfl); (case k2 => k_asm); (case k3 => k_asm); (case k4 => walk_at "mine list"); (case k5 => assumption); k_whole); intro h' t' tk' F' N'; (try k_sweep)))
local macro_rules | `(tactic| walk_at "call builtin:min") => `(tactic| (k_here; (with_reducible show wpAny _ _ (call (Value.builtin _) [Value.ref _]) _ _ _); (with_unfolding_all refine' min_list3 ?k1 ?k2 ?k3 ?k4 ?k5 ?_; (case k1 => with_unfolding_all rfl); (case k2 => k_asm); (case k3 => k_asm); (case k4 => walk_at "mine list"); (case k5 => assumption); k_whole); intro h' t' tk' F' N'; (try k_sweep)))

theorem hue_call_v {w : World} {mean : ExcName → Option Value} {mg mb : Str → Option Value} {dp un : Nat} {fr : Option (List Env)} {gd : Option (List Code)} {s : Shared} {Q E : Value → Shared → Prop}
   (X : (hd.heap_39 w.params).In s.heap) (T : Top hd.view_39 (looseW hd.view_39 []) mean mg mb s.heap) (hdp : dp + 1 < recursionLimit)
   (pa : Addr) (R G B M m : Int) (t u v : Tok) (fM fm : UInt64) (hl : s.heap.IsList pa #[.int R t, .int G u, .int B v])
   (hM : R ≤ M ∧ G ≤ M ∧ B ≤ M ∧ (M = R ∨ M = G ∨ M = B)) (hm : m ≤ R ∧ m ≤ G ∧ m ≤ B ∧ (m = R ∨ m = G ∨ m = B)) (hm0 : 0 ≤ m) (hM1 : M ≤ 128)
   (e1 : fmax3 (iq R 128) (iq G 128) (iq B 128) = fM) (e2 : fmin3 (iq R 128) (iq G 128) (iq B 128) = fm) 
   (h1 : (Float64.cmp fm fM == some .eq) = false) (h2 : ¬ Float64.isZero (Float64.sub fM fm) = true) (h3 : ¬ Float64.isZero fM = true)
   (h5 : (Float64.cmp fM (iq M 128) != some .eq) = false)
   (h6 : Float64.isFinite (Float64.mul (Float64.ofInt (1048576 * M)) (Float64.div (Float64.sub fM fm) fM)) = true)
   (h7 : toInt Float64.nearestOf (Float64.mul (Float64.ofInt (1048576 * M)) (Float64.div (Float64.sub fM fm) fM)) = 1048576 * (M - m))
   (hret : ∀ h' tk t1, Keeps s.heap h' → Q (.float (hueOf (iq R 128) (iq G 128) (iq B 128) fM fm) t1) { s with heap := h', toks := tk }) :
   wpAny (model PySem.Challenge.rw_pe0059_01.row.prog w) (Ar dp un fr gd) (call (.ref 91) [.ref pa, .bool false]) Q E s := by
  have hR : 0 ≤ R := by omega
  have hG : 0 ≤ G := by omega
  have hB : 0 ≤ B := by omega
  have hR1 : R ≤ 128 := by omega
  have hG1 : G ≤ 128 := by omega
  have hB1 : B ≤ 128 := by omega
  k_dflt (refine' call_frz (binds := [(Str.ofString "parts", .ref pa), (Str.ofString "light", .bool false)]) X T ?k3 ?k4 (show dp < recursionLimit by omega) ?k6 ?k7 ?_ ?c1 ?c2 ?c3 ?c4; (case k3 => k_is); (case k4 => k_is); (case k6 => exact BindsTo.of_eq rfl); (case k7 => exact locs rfl); (case c1 => decide); (case c2 => exact rfl); (case c3 => exact rfl); (case c4 => exact rfl); k_whole; intro L' h' F' N'; (try dsimp only); (try k_fold))
  k_steps
  rename News _ _ _ _ => hN
  rename Fr _ _ _ _ => hF
  with_unfolding_all refine hsv_call2 (X.keeps hF.keep) (T.keeps hF.keep) hdp e1 e2 h1 h2 h3 ?_
  intro a h' tk t1 t2 t3 kp ha hn
  have F' := Fr.grownK hF kp
  have N' := news_back hF hN kp ha hn
  clear kp ha hn hF hN
  dsimp only
  k_steps
  all_goals dsimp only [qk]
  all_goals first | exact absurd h7 (by assumption) | skip
  all_goals (rename Fr _ _ _ _ => hF; exact hret _ _ _ hF.keep)
theorem hue_call_l {w : World} {mean : ExcName → Option Value} {mg mb : Str → Option Value} {dp un : Nat} {fr : Option (List Env)} {gd : Option (List Code)} {s : Shared} {Q E : Value → Shared → Prop}
   (X : (hd.heap_39 w.params).In s.heap) (T : Top hd.view_39 (looseW hd.view_39 []) mean mg mb s.heap) (hdp : dp + 1 < recursionLimit)
   (pa : Addr) (R G B M m : Int) (t u v : Tok) (fM fm : UInt64) (hl : s.heap.IsList pa #[.int R t, .int G u, .int B v])
   (hM : R ≤ M ∧ G ≤ M ∧ B ≤ M ∧ (M = R ∨ M = G ∨ M = B)) (hm : m ≤ R ∧ m ≤ G ∧ m ≤ B ∧ (m = R ∨ m = G ∨ m = B)) (hm0 : 0 ≤ m) (hM1 : M ≤ 128)
   (e1 : fmax3 (iq R 128) (iq G 128) (iq B 128) = fM) (e2 : fmin3 (iq R 128) (iq G 128) (iq B 128) = fm) 
   (h1 : (Float64.cmp fm fM == some .eq) = false) (h2 : ¬ Float64.isZero (Float64.sub fM fm) = true) (h3 : ¬ Float64.isZero (Float64.add fM fm) = true) (h4 : ¬ Float64.isZero (Float64.sub (Float64.sub 4611686018427387904 fM) fm) = true)
   (W : Int) (hW : W = if 256 - M - m < M + m then 256 - M - m else M + m) (h5 : (Float64.cmp (Float64.div (Float64.add fM fm) 4611686018427387904) (iq (M + m) 256) != some .eq) = false)
   (h6 : Float64.isFinite (Float64.mul (Float64.ofInt (1048576 * W)) (satOf fM fm)) = true)
   (h7 : toInt Float64.nearestOf (Float64.mul (Float64.ofInt (1048576 * W)) (satOf fM fm)) = 1048576 * (M - m))
   (hret : ∀ h' tk t1, Keeps s.heap h' → Q (.float (hueOf (iq R 128) (iq G 128) (iq B 128) fM fm) t1) { s with heap := h', toks := tk }) :
   wpAny (model PySem.Challenge.rw_pe0059_01.row.prog w) (Ar dp un fr gd) (call (.ref 91) [.ref pa, .bool true]) Q E s := by
  subst hW
  have hR : 0 ≤ R := by omega
  have hG : 0 ≤ G := by omega
  have hB : 0 ≤ B := by omega
  have hR1 : R ≤ 128 := by omega
  have hG1 : G ≤ 128 := by omega
  have hB1 : B ≤ 128 := by omega
  k_dflt (refine' call_frz (binds := [(Str.ofString "parts", .ref pa), (Str.ofString "light", .bool true)]) X T ?k3 ?k4 (show dp < recursionLimit by omega) ?k6 ?k7 ?_ ?c1 ?c2 ?c3 ?c4; (case k3 => k_is); (case k4 => k_is); (case k6 => exact BindsTo.of_eq rfl); (case k7 => exact locs rfl); (case c1 => decide); (case c2 => exact rfl); (case c3 => exact rfl); (case c4 => exact rfl); k_whole; intro L' h' F' N'; (try dsimp only); (try k_fold))
  k_steps
  rename News _ _ _ _ => hN
  rename Fr _ _ _ _ => hF
  with_unfolding_all refine hls_call2 (X.keeps hF.keep) (T.keeps hF.keep) hdp e1 e2 h1 h2 h3 h4 ?_
  intro a h' tk t1 t2 t3 kp ha hn
  have F' := Fr.grownK hF kp
  have N' := news_back hF hN kp ha hn
  clear kp ha hn hF hN
  dsimp only
  k_steps
  all_goals dsimp only [qk]
  all_goals first | exact absurd h7 (by assumption) | skip
  all_goals (rename Fr _ _ _ _ => hF; exact hret _ _ _ hF.keep)
theorem add_ii {w : World} {mean : ExcName → Option Value} {mg mb : Str → Option Value} {dp un : Nat} {fr : Option (List Env)} {gd : Option (List Code)} {s : Shared} {Q E : Value → Shared → Prop}
   (X : (hd.heap_39 w.params).In s.heap) (T : Top hd.view_39 (looseW hd.view_39 []) mean mg mb s.heap) (hdp : dp < recursionLimit) {a b : Int} {t u : Tok}
   (hret : ∀ h' tk (t1 : Tok), Keeps s.heap h' → Q (.int (a + b) t1) { s with heap := h', toks := tk }) :
   wpAny (model PySem.Challenge.rw_pe0059_01.row.prog w) (Ar dp un fr gd) (call (.ref 49) [.int a t, .int b u]) Q E s := by
  k_dflt (refine' call_frz (binds := [(Str.ofString "a", .int a t), (Str.ofString "b", .int b u)]) X T ?k3 ?k4 hdp ?k6 ?k7 ?_ ?c1 ?c2 ?c3 ?c4; (case k3 => k_is); (case k4 => k_is); (case k6 => exact BindsTo.of_eq rfl); (case k7 => exact locs rfl); (case c1 => decide); (case c2 => exact rfl); (case c3 => exact rfl); (case c4 => exact rfl); k_whole; intro L' h' F' N'; (try dsimp only); (try k_fold))
  k_steps
  all_goals (try dsimp only [qk])
  all_goals (rename Fr _ _ _ _ => hF; exact hret _ _ _ hF.keep)
theorem sub_ii {w : World} {mean : ExcName → Option Value} {mg mb : Str → Option Value} {dp un : Nat} {fr : Option (List Env)} {gd : Option (List Code)} {s : Shared} {Q E : Value → Shared → Prop}
   (X : (hd.heap_39 w.params).In s.heap) (T : Top hd.view_39 (looseW hd.view_39 []) mean mg mb s.heap) (hdp : dp < recursionLimit) {a b : Int} {t u : Tok}
   (hret : ∀ h' tk (t1 : Tok), Keeps s.heap h' → Q (.int (a - b) t1) { s with heap := h', toks := tk }) :
   wpAny (model PySem.Challenge.rw_pe0059_01.row.prog w) (Ar dp un fr gd) (call (.ref 70) [.int a t, .int b u]) Q E s := by
  k_dflt (refine' call_frz (binds := [(Str.ofString "a", .int a t), (Str.ofString "b", .int b u)]) X T ?k3 ?k4 hdp ?k6 ?k7 ?_ ?c1 ?c2 ?c3 ?c4; (case k3 => k_is); (case k4 => k_is); (case k6 => exact BindsTo.of_eq rfl); (case k7 => exact locs rfl); (case c1 => decide); (case c2 => exact rfl); (case c3 => exact rfl); (case c4 => exact rfl); k_whole; intro L' h' F' N'; (try dsimp only); (try k_fold))
  k_steps
  all_goals (try dsimp only [qk])
  all_goals (rename Fr _ _ _ _ => hF; exact hret _ _ _ hF.keep)
theorem mul_ii {w : World} {mean : ExcName → Option Value} {mg mb : Str → Option Value} {dp un : Nat} {fr : Option (List Env)} {gd : Option (List Code)} {s : Shared} {Q E : Value → Shared → Prop}
   (X : (hd.heap_39 w.params).In s.heap) (T : Top hd.view_39 (looseW hd.view_39 []) mean mg mb s.heap) (hdp : dp < recursionLimit) {a b : Int} {t u : Tok} (ha : -16777216 ≤ a ∧ a ≤ 16777216) (_hb : -16777216 ≤ b ∧ b ≤ 16777216)
   (hret : ∀ h' tk (t1 : Tok), Keeps s.heap h' → Q (.int (a * b) t1) { s with heap := h', toks := tk }) :
   wpAny (model PySem.Challenge.rw_pe0059_01.row.prog w) (Ar dp un fr gd) (call (.ref 63) [.int a t, .int b u]) Q E s := by
  k_dflt (refine' call_frz (binds := [(Str.ofString "a", .int a t), (Str.ofString "b", .int b u)]) X T ?k3 ?k4 hdp ?k6 ?k7 ?_ ?c1 ?c2 ?c3 ?c4; (case k3 => k_is); (case k4 => k_is); (case k6 => exact BindsTo.of_eq rfl); (case k7 => exact locs rfl); (case c1 => decide); (case c2 => exact rfl); (case c3 => exact rfl); (case c4 => exact rfl); k_whole; intro L' h' F' N'; (try dsimp only); (try k_fold))
  k_steps
  all_goals (try dsimp only [qk])
  all_goals (rename Fr _ _ _ _ => hF; exact hret _ _ _ hF.keep)
theorem gt_ii {w : World} {mean : ExcName → Option Value} {mg mb : Str → Option Value} {dp un : Nat} {fr : Option (List Env)} {gd : Option (List Code)} {s : Shared} {Q E : Value → Shared → Prop}
   (X : (hd.heap_39 w.params).In s.heap) (T : Top hd.view_39 (looseW hd.view_39 []) mean mg mb s.heap) (hdp : dp < recursionLimit) {a b : Int} {t u : Tok}
   (hret : ∀ h' tk, Keeps s.heap h' → Q (.bool (decide (b < a))) { s with heap := h', toks := tk }) :
   wpAny (model PySem.Challenge.rw_pe0059_01.row.prog w) (Ar dp un fr gd) (call (.ref 42) [.int a t, .int b u]) Q E s := by
  k_dflt (refine' call_frz (binds := [(Str.ofString "a", .int a t), (Str.ofString "b", .int b u)]) X T ?k3 ?k4 hdp ?k6 ?k7 ?_ ?c1 ?c2 ?c3 ?c4; (case k3 => k_is); (case k4 => k_is); (case k6 => exact BindsTo.of_eq rfl); (case k7 => exact locs rfl); (case c1 => decide); (case c2 => exact rfl); (case c3 => exact rfl); (case c4 => exact rfl); k_whole; intro L' h' F' N'; (try dsimp only); (try k_fold))
  k_steps
  all_goals (try dsimp only [qk])
  all_goals (rename Fr _ _ _ _ => hF; exact hret _ _ hF.keep)
theorem lt_ii {w : World} {mean : ExcName → Option Value} {mg mb : Str → Option Value} {dp un : Nat} {fr : Option (List Env)} {gd : Option (List Code)} {s : Shared} {Q E : Value → Shared → Prop}
   (X : (hd.heap_39 w.params).In s.heap) (T : Top hd.view_39 (looseW hd.view_39 []) mean mg mb s.heap) (hdp : dp < recursionLimit) {a b : Int} {t u : Tok}
   (hret : ∀ h' tk, Keeps s.heap h' → Q (.bool (decide (a < b))) { s with heap := h', toks := tk }) :
   wpAny (model PySem.Challenge.rw_pe0059_01.row.prog w) (Ar dp un fr gd) (call (.ref 35) [.int a t, .int b u]) Q E s := by
  k_dflt (refine' call_frz (binds := [(Str.ofString "a", .int a t), (Str.ofString "b", .int b u)]) X T ?k3 ?k4 hdp ?k6 ?k7 ?_ ?c1 ?c2 ?c3 ?c4; (case k3 => k_is); (case k4 => k_is); (case k6 => exact BindsTo.of_eq rfl); (case k7 => exact locs rfl); (case c1 => decide); (case c2 => exact rfl); (case c3 => exact rfl); (case c4 => exact rfl); k_whole; intro L' h' F' N'; (try dsimp only); (try k_fold))
  k_steps
  all_goals (try dsimp only [qk])
  all_goals (rename Fr _ _ _ _ => hF; exact hret _ _ hF.keep)
theorem add_ff {w : World} {mean : ExcName → Option Value} {mg mb : Str → Option Value} {dp un : Nat} {fr : Option (List Env)} {gd : Option (List Code)} {s : Shared} {Q E : Value → Shared → Prop}
   (X : (hd.heap_39 w.params).In s.heap) (T : Top hd.view_39 (looseW hd.view_39 []) mean mg mb s.heap) (hdp : dp < recursionLimit) {a b : UInt64} {t u : Tok}
   (hret : ∀ h' tk (t1 : Tok), Keeps s.heap h' → Q (.float (Float64.add a b) t1) { s with heap := h', toks := tk }) :
   wpAny (model PySem.Challenge.rw_pe0059_01.row.prog w) (Ar dp un fr gd) (call (.ref 49) [.float a t, .float b u]) Q E s := by
  k_dflt (refine' call_frz (binds := [(Str.ofString "a", .float a t), (Str.ofString "b", .float b u)]) X T ?k3 ?k4 hdp ?k6 ?k7 ?_ ?c1 ?c2 ?c3 ?c4; (case k3 => k_is); (case k4 => k_is); (case k6 => exact BindsTo.of_eq rfl); (case k7 => exact locs rfl); (case c1 => decide); (case c2 => exact rfl); (case c3 => exact rfl); (case c4 => exact rfl); k_whole; intro L' h' F' N'; (try dsimp only); (try k_fold))
  k_steps
  all_goals (try dsimp only [qk])
  all_goals (rename Fr _ _ _ _ => hF; exact hret _ _ _ hF.keep)
theorem sub_ff {w : World} {mean : ExcName → Option Value} {mg mb : Str → Option Value} {dp un : Nat} {fr : Option (List Env)} {gd : Option (List Code)} {s : Shared} {Q E : Value → Shared → Prop}
   (X : (hd.heap_39 w.params).In s.heap) (T : Top hd.view_39 (looseW hd.view_39 []) mean mg mb s.heap) (hdp : dp < recursionLimit) {a b : UInt64} {t u : Tok}
   (hret : ∀ h' tk (t1 : Tok), Keeps s.heap h' → Q (.float (Float64.sub a b) t1) { s with heap := h', toks := tk }) :
   wpAny (model PySem.Challenge.rw_pe0059_01.row.prog w) (Ar dp un fr gd) (call (.ref 70) [.float a t, .float b u]) Q E s := by
  k_dflt (refine' call_frz (binds := [(Str.ofString "a", .float a t), (Str.ofString "b", .float b u)]) X T ?k3 ?k4 hdp ?k6 ?k7 ?_ ?c1 ?c2 ?c3 ?c4; (case k3 => k_is); (case k4 => k_is); (case k6 => exact BindsTo.of_eq rfl); (case k7 => exact locs rfl); (case c1 => decide); (case c2 => exact rfl); (case c3 => exact rfl); (case c4 => exact rfl); k_whole; intro L' h' F' N'; (try dsimp only); (try k_fold))
  k_steps
  all_goals (try dsimp only [qk])
  all_goals (rename Fr _ _ _ _ => hF; exact hret _ _ _ hF.keep)
theorem mod_ff {w : World} {mean : ExcName → Option Value} {mg mb : Str → Option Value} {dp un : Nat} {fr : Option (List Env)} {gd : Option (List Code)} {s : Shared} {Q E : Value → Shared → Prop}
   (X : (hd.heap_39 w.params).In s.heap) (T : Top hd.view_39 (looseW hd.view_39 []) mean mg mb s.heap) (hdp : dp < recursionLimit) {a b : UInt64} {t u : Tok} (hz : ¬ Float64.isZero b = true)
   (hret : ∀ h' tk (t1 : Tok), Keeps s.heap h' → Q (.float (Float64.divmod a b).snd t1) { s with heap := h', toks := tk }) :
   wpAny (model PySem.Challenge.rw_pe0059_01.row.prog w) (Ar dp un fr gd) (call (.ref 56) [.float a t, .float b u]) Q E s := by
  k_dflt (refine' call_frz (binds := [(Str.ofString "a", .float a t), (Str.ofString "b", .float b u)]) X T ?k3 ?k4 hdp ?k6 ?k7 ?_ ?c1 ?c2 ?c3 ?c4; (case k3 => k_is); (case k4 => k_is); (case k6 => exact BindsTo.of_eq rfl); (case k7 => exact locs rfl); (case c1 => decide); (case c2 => exact rfl); (case c3 => exact rfl); (case c4 => exact rfl); k_whole; intro L' h' F' N'; (try dsimp only); (try k_fold))
  k_steps
  all_goals (try dsimp only [qk])
  all_goals (rename Fr _ _ _ _ => hF; exact hret _ _ _ hF.keep)
theorem add_ii' {w : World} {mean : ExcName → Option Value} {mg mb : Str → Option Value} {dp un : Nat} {fr : Option (List Env)} {gd : Option (List Code)} {s : Shared} {Q E : Value → Shared → Prop}
   (X : (hd.heap_39 w.params).In s.heap) (T : Top hd.view_39 (looseW hd.view_39 []) mean mg mb s.heap) (hdp : dp < recursionLimit) {a b : Int} {t u : Tok} (pre : True)
   (hret : ∀ h' tk (t1 : Tok), Keeps s.heap h' → Q (.int (a + b) t1) { s with heap := h', toks := tk }) :
   wpAny (model PySem.Challenge.rw_pe0059_01.row.prog w) (Ar dp un fr gd) (call (.ref 49) [.int a t, .int b u]) Q E s := add_ii X T hdp hret
theorem sub_ii' {w : World} {mean : ExcName → Option Value} {mg mb : Str → Option Value} {dp un : Nat} {fr : Option (List Env)} {gd : Option (List Code)} {s : Shared} {Q E : Value → Shared → Prop}
   (X : (hd.heap_39 w.params).In s.heap) (T : Top hd.view_39 (looseW hd.view_39 []) mean mg mb s.heap) (hdp : dp < recursionLimit) {a b : Int} {t u : Tok} (pre : True)
   (hret : ∀ h' tk (t1 : Tok), Keeps s.heap h' → Q (.int (a - b) t1) { s with heap := h', toks := tk }) :
   wpAny (model PySem.Challenge.rw_pe0059_01.row.prog w) (Ar dp un fr gd) (call (.ref 70) [.int a t, .int b u]) Q E s := sub_ii X T hdp hret
theorem mul_ii' {w : World} {mean : ExcName → Option Value} {mg mb : Str → Option Value} {dp un : Nat} {fr : Option (List Env)} {gd : Option (List Code)} {s : Shared} {Q E : Value → Shared → Prop}
   (X : (hd.heap_39 w.params).In s.heap) (T : Top hd.view_39 (looseW hd.view_39 []) mean mg mb s.heap) (hdp : dp < recursionLimit) {a b : Int} {t u : Tok} (pre : (-16777216 ≤ a ∧ a ≤ 16777216) ∧ (-16777216 ≤ b ∧ b ≤ 16777216))
   (hret : ∀ h' tk (t1 : Tok), Keeps s.heap h' → Q (.int (a * b) t1) { s with heap := h', toks := tk }) :
   wpAny (model PySem.Challenge.rw_pe0059_01.row.prog w) (Ar dp un fr gd) (call (.ref 63) [.int a t, .int b u]) Q E s := mul_ii X T hdp pre.1 pre.2 hret
theorem gt_ii' {w : World} {mean : ExcName → Option Value} {mg mb : Str → Option Value} {dp un : Nat} {fr : Option (List Env)} {gd : Option (List Code)} {s : Shared} {Q E : Value → Shared → Prop}
   (X : (hd.heap_39 w.params).In s.heap) (T : Top hd.view_39 (looseW hd.view_39 []) mean mg mb s.heap) (hdp : dp < recursionLimit) {a b : Int} {t u : Tok} (pre : True)
   (hret : ∀ h' tk (t1 : Tok), Keeps s.heap h' → Q (.bool (decide (b < a))) { s with heap := h', toks := tk }) :
   wpAny (model PySem.Challenge.rw_pe0059_01.row.prog w) (Ar dp un fr gd) (call (.ref 42) [.int a t, .int b u]) Q E s := gt_ii X T hdp fun h' tk k => hret h' tk 0 k
theorem lt_ii' {w : World} {mean : ExcName → Option Value} {mg mb : Str → Option Value} {dp un : Nat} {fr : Option (List Env)} {gd : Option (List Code)} {s : Shared} {Q E : Value → Shared → Prop}
   (X : (hd.heap_39 w.params).In s.heap) (T : Top hd.view_39 (looseW hd.view_39 []) mean mg mb s.heap) (hdp : dp < recursionLimit) {a b : Int} {t u : Tok} (pre : True)
   (hret : ∀ h' tk (t1 : Tok), Keeps s.heap h' → Q (.bool (decide (a < b))) { s with heap := h', toks := tk }) :
   wpAny (model PySem.Challenge.rw_pe0059_01.row.prog w) (Ar dp un fr gd) (call (.ref 35) [.int a t, .int b u]) Q E s := lt_ii X T hdp fun h' tk k => hret h' tk 0 k
theorem add_ff' {w : World} {mean : ExcName → Option Value} {mg mb : Str → Option Value} {dp un : Nat} {fr : Option (List Env)} {gd : Option (List Code)} {s : Shared} {Q E : Value → Shared → Prop}
   (X : (hd.heap_39 w.params).In s.heap) (T : Top hd.view_39 (looseW hd.view_39 []) mean mg mb s.heap) (hdp : dp < recursionLimit) {a b : UInt64} {t u : Tok} (pre : True)
   (hret : ∀ h' tk (t1 : Tok), Keeps s.heap h' → Q (.float (Float64.add a b) t1) { s with heap := h', toks := tk }) :
   wpAny (model PySem.Challenge.rw_pe0059_01.row.prog w) (Ar dp un fr gd) (call (.ref 49) [.float a t, .float b u]) Q E s := add_ff X T hdp hret
theorem sub_ff' {w : World} {mean : ExcName → Option Value} {mg mb : Str → Option Value} {dp un : Nat} {fr : Option (List Env)} {gd : Option (List Code)} {s : Shared} {Q E : Value → Shared → Prop}
   (X : (hd.heap_39 w.params).In s.heap) (T : Top hd.view_39 (looseW hd.view_39 []) mean mg mb s.heap) (hdp : dp < recursionLimit) {a b : UInt64} {t u : Tok} (pre : True)
   (hret : ∀ h' tk (t1 : Tok), Keeps s.heap h' → Q (.float (Float64.sub a b) t1) { s with heap := h', toks := tk }) :
   wpAny (model PySem.Challenge.rw_pe0059_01.row.prog w) (Ar dp un fr gd) (call (.ref 70) [.float a t, .float b u]) Q E s := sub_ff X T hdp hret
theorem mod_ff' {w : World} {mean : ExcName → Option Value} {mg mb : Str → Option Value} {dp un : Nat} {fr : Option (List Env)} {gd : Option (List Code)} {s : Shared} {Q E : Value → Shared → Prop}
   (X : (hd.heap_39 w.params).In s.heap) (T : Top hd.view_39 (looseW hd.view_39 []) mean mg mb s.heap) (hdp : dp < recursionLimit) {a b : UInt64} {t u : Tok} (pre : ¬ Float64.isZero b = true)
   (hret : ∀ h' tk (t1 : Tok), Keeps s.heap h' → Q (.float (Float64.divmod a b).snd t1) { s with heap := h', toks := tk }) :
   wpAny (model PySem.Challenge.rw_pe0059_01.row.prog w) (Ar dp un fr gd) (call (.ref 56) [.float a t, .float b u]) Q E s := mod_ff X T hdp pre hret
local macro_rules | `(tactic| walk_at "mine room") => `(tactic| first | assumption | lia | decide | (simp only [depth_deeper, depth_caller]; lia))
local macro_rules | `(tactic| walk_at "mine fit") => `(tactic| first | assumption | lia)
local macro_rules | `(tactic| walk_at "mine pre") => `(tactic| first | exact True.intro | assumption | (refine ⟨?_, ?_⟩ <;> (walk_at "mine fit")) | decide +kernel)
local macro_rules | `(tactic| walk_at "call ref") => `(tactic| (k_here; (with_reducible show wpAny _ _ (call (Value.ref _) [_, _]) _ _ _); (rename News _ _ _ _ => cN); (rename Fr _ _ _ _ => cF); (with_unfolding_all (first | ((with_reducible show wpAny _ _ (call (Value.ref 49) [Value.int _ _, Value.int _ _]) _ _ _); refine' add_ii' ?k1 ?k2 ?k3 ?k4 ?_) | ((with_reducible show wpAny _ _ (call (Value.ref 70) [Value.int _ _, Value.int _ _]) _ _ _); refine' sub_ii' ?k1 ?k2 ?k3 ?k4 ?_) | ((with_reducible show wpAny _ _ (call (Value.ref 63) [Value.int _ _, Value.int _ _]) _ _ _); refine' mul_ii' ?k1 ?k2 ?k3 ?k4 ?_) | ((with_reducible show wpAny _ _ (call (Value.ref 42) [Value.int _ _, Value.int _ _]) _ _ _); refine' gt_ii' ?k1 ?k2 ?k3 ?k4 ?_) | ((with_reducible show wpAny _ _ (call (Value.ref 35) [Value.int _ _, Value.int _ _]) _ _ _); refine' lt_ii' ?k1 ?k2 ?k3 ?k4 ?_) | ((with_reducible show wpAny _ _ (call (Value.ref 49) [Value.float _ _, Value.float _ _]) _ _ _); refine' add_ff' ?k1 ?k2 ?k3 ?k4 ?_) | ((with_reducible show wpAny _ _ (call (Value.ref 70) [Value.float _ _, Value.float _ _]) _ _ _); refine' sub_ff' ?k1 ?k2 ?k3 ?k4 ?_) | ((with_reducible show wpAny _ _ (call (Value.ref 56) [Value.float _ _, Value.float _ _]) _ _ _); refine' mod_ff' ?k1 ?k2 ?k3 ?k4 ?_)); (case k1 => exact Frag.In.keeps (by with_reducible assumption) cF.keep); (case k2 => exact Top.keeps (by with_reducible assumption) cF.keep); (case k3 => walk_at "mine room"); (case k4 => walk_at "mine pre"); k_whole); intro h9 tk9 t9 kp9; (have F9 := Fr.grownK cF kp9); (have N9 := News.grown cN kp9); clear kp9 cF cN; (try dsimp only)))

theorem cross_call {w : World} {mean : ExcName → Option Value} {mg mb : Str → Option Value} {dp un : Nat} {fr : Option (List Env)} {gd : Option (List Code)} {s : Shared} {Q E : Value → Shared → Prop}
   (X : (hd.heap_39 w.params).In s.heap) (T : Top hd.view_39 (looseW hd.view_39 []) mean mg mb s.heap) (hdp : dp + 1 < recursionLimit)
   {p q : Addr} {a b c d : Int} {t u v x : Tok} (hp : IsTup s.heap p #[.int a t, .int b u]) (hq : IsTup s.heap q #[.int c v, .int d x])
   (ha : -16777216 ≤ a ∧ a ≤ 16777216) (hb : -16777216 ≤ b ∧ b ≤ 16777216) (hc : -16777216 ≤ c ∧ c ≤ 16777216) (hd' : -16777216 ≤ d ∧ d ≤ 16777216)
   (hret : ∀ h' tk (t1 : Tok), Keeps s.heap h' → Q (.int (a * d - b * c) t1) { s with heap := h', toks := tk }) :
   wpAny (model PySem.Challenge.rw_pe0059_01.row.prog w) (Ar dp un fr gd) (call (.ref 98) [.ref p, .ref q]) Q E s := by
  k_dflt (refine' call_frz (binds := [(Str.ofString "one", .ref p), (Str.ofString "two", .ref q)]) X T ?k3 ?k4 (show dp < recursionLimit by omega) ?k6 ?k7 ?_ ?c1 ?c2 ?c3 ?c4; (case k3 => k_is); (case k4 => k_is); (case k6 => exact BindsTo.of_eq rfl); (case k7 => exact locs rfl); (case c1 => decide); (case c2 => exact rfl); (case c3 => exact rfl); (case c4 => exact rfl); k_whole; intro L' h' F' N'; (try dsimp only); (try k_fold))
  k_steps
  all_goals (try dsimp only [qk])
  all_goals (rename Fr _ _ _ _ => hF; exact hret _ _ _ hF.keep)
/-- two lists side by side -/
inductive All2 {α β : Type} (P : α → β → Prop) : List α → List β → Prop
  | nil : All2 P [] []
  | cons {a : α} {b : β} {as : List α} {bs : List β} : P a b → All2 P as bs → All2 P (a :: as) (b :: bs)
theorem All2.length {α β : Type} {P : α → β → Prop} : ∀ {as : List α} {bs : List β}, All2 P as bs → as.length = bs.length
  | _, _, .nil => rfl
  | _, _, .cons _ r => congrArg (· + 1) r.length
theorem All2.get {α β : Type} {P : α → β → Prop} : ∀ {as : List α} {bs : List β}, All2 P as bs → ∀ {i : Nat} {b : β}, bs[i]? = some b → ∃ a, as[i]? = some a ∧ P a b
  | _, _, .nil, i, b, h => by simp at h
  | _, _, .cons p _, 0, b, h => by
    simp only [List.getElem?_cons_zero, Option.some.injEq] at h
    subst h
    exact ⟨_, rfl, p⟩
  | _, _, .cons _ r, i + 1, b, h => by
    rw [List.getElem?_cons_succ] at h
    obtain ⟨a, h1, h2⟩ := r.get h
    exact ⟨a, by rw [List.getElem?_cons_succ]; exact h1, h2⟩
theorem All2.mono {α β : Type} {P Q : α → β → Prop} (h : ∀ a b, P a b → Q a b) : ∀ {as : List α} {bs : List β}, All2 P as bs → All2 Q as bs
  | _, _, .nil => .nil
  | _, _, .cons p r => .cons (h _ _ p) (r.mono h)
theorem All2.snoc {α β : Type} {P : α → β → Prop} {a : α} {b : β} (p : P a b) : ∀ {as : List α} {bs : List β}, All2 P as bs → All2 P (as ++ [a]) (bs ++ [b])
  | _, _, .nil => .cons p .nil
  | _, _, .cons q r => .cons q (r.snoc p)
/-- the new objects that a frozen call leaves -/
noncomputable def Left (h h' : Heap) (objs : List (Addr × Obj)) : Prop := ∀ p ∈ objs, h'.get? p.1 = some p.2 ∧ h.get? p.1 = none
theorem left_of_news {h h' : Heap} {L : Addr} {news : List (Addr × Obj)} (N : News h L h' news) : Left h h' news := fun p hp => ⟨(N p hp).1, (N p hp).2.2⟩
theorem news_left {h₀ h h' : Heap} {L : Addr} {m : Str → Option Value} {news objs : List (Addr × Obj)} (F : Fr h₀ L h m) (N : News h₀ L h news) (k : Keeps h h') (l : Left h h' objs) : News h₀ L h' (objs ++ news) := by
  intro p hp
  rcases List.mem_append.mp hp with hp | hp
  · refine ⟨(l p hp).1, fun e => ?_, ?_⟩
    · obtain ⟨⟨oL, es, ep, hL, _⟩, _, _⟩ := F
      have := (l p hp).2
      rw [show p.1 = L from e, hL] at this; cases this
    · cases q : h₀.get? p.1 with
      | none => rfl
      | some o' => have := F.keep _ _ q; rw [(l p hp).2] at this; cases this
  · exact News.grown N k p hp
/-- how a loop's goal stands once its iterator is made: as the library's TurnsAt, with a bound below the tokens (z) that every turn keeps -/
noncomputable def TurnsZ (z : Nat) (prog : Program) (w : World) (A : Around) (h₀ : Heap) (env : Env) (target : PySem.Expr) (body : List Stmt) (Q : Flow → Shared → Prop) (E : Value → Shared → Prop) (it : Value) (s₂ : Shared) : Prop :=
  z ≤ s₂.toks → ∃ (I : Addr) (fp wr : List Addr) (n : Nat) (P Md : Nat → Value → Heap → Prop) (St : Nat → Heap → Prop) (J : Nat → (Str → Option Value) → List (Addr × Obj) → Prop),
    it = .ref I ∧ KTurns prog w A target I fp wr n P Md St ∧ env.locals ∉ fp ∧ (∀ b ∈ wr, h₀.get? b = none) ∧ St 0 s₂.heap ∧ (∃ m news, Fr h₀ env.locals s₂.heap m ∧ News h₀ env.locals s₂.heap news ∧ (∀ p ∈ news, p.1 ∉ wr) ∧ J 0 m news) ∧
    (∀ i v m₁ news₁ h₁ tk₁ own, i < n → z ≤ tk₁ → P i v h₁ → J i m₁ news₁ → (∀ p ∈ news₁, p.1 ∉ wr) → (∀ p ∈ own, p.1 ∈ fp) → (∀ p ∈ own, h₁.get? p.1 = some p.2) → (∀ b ∈ fp, h₀.get? b = none → ∀ o, h₁.get? b = some o → (b, o) ∈ own) → St (i + 1) h₁ →
      Fr h₀ env.locals h₁ m₁ → News h₀ env.locals h₁ (own ++ news₁) →
      wpAny (model prog w) A (assign target env v) (fun _ s₃ => wpAny (model prog w) A (execs body env)
        (LoopStepV h₀ env.locals wr own (J (i + 1)) { s₂ with heap := h₁, toks := tk₁ } (fun v s' => Q (.ret v) s') fun s' => Q .next s') E s₃) E { s₂ with heap := h₁, toks := tk₁ }) ∧
    ∀ h' tk m' news', z ≤ tk → Fr h₀ env.locals h' m' → News h₀ env.locals h' news' → (∀ p ∈ news', p.1 ∉ wr) → J n m' news' → Q .next { s₂ with heap := h', toks := tk }
/-- where a loop stands between two turns -/
structure Mid (z : Nat) (h₀ : Heap) (L : Addr) (wr : List Addr) (St : Nat → Heap → Prop) (J : Nat → (Str → Option Value) → List (Addr × Obj) → Prop) (i : Nat) (h : Heap) (tk : Nat) : Prop where
  low : z ≤ tk
  st : St i h
  rest : ∃ m news, Fr h₀ L h m ∧ News h₀ L h news ∧ (∀ p ∈ news, p.1 ∉ wr) ∧ J i m news
section
variable {prog : Program} {w : World} {A : Around} {E : Value → Shared → Prop} {s : Shared} {env : Env} {h₀ : Heap} {target : PySem.Expr} {body : List Stmt} {Q : Flow → Shared → Prop}
/-- nothing but the iterator's own cells moved: frame and ledger stand -/
theorem stand {L : Addr} {wr : List Addr} {h h' : Heap} {m : Str → Option Value} {news : List (Addr × Obj)} (hL : L ∉ wr) (hwr : ∀ b ∈ wr, h₀.get? b = none) (F : Fr h₀ L h m) (N : News h₀ L h news) (off : ∀ p ∈ news, p.1 ∉ wr)
    (k : ∀ b o, b ∉ wr → h.get? b = some o → h'.get? b = some o) : Fr h₀ L h' m ∧ News h₀ L h' news := by
  have hold : ∀ b o, h₀.get? b = some o → b ∉ wr := fun b o e hb => by
    have := hwr b hb
    rw [this] at e
    cases e
  refine ⟨⟨F.ns.at' fun o e => k L o hL e, fun b o e => k b o (hold b o e) (F.keep b o e), F.above⟩, fun p hp => ⟨k p.1 p.2 (off p hp) (N p hp).1, (N p hp).2⟩⟩
theorem after_turn {z : Nat} {I : Addr} {fp wr : List Addr} {n : Nat} {P Md : Nat → Value → Heap → Prop} {St : Nat → Heap → Prop} {J : Nat → (Str → Option Value) → List (Addr × Obj) → Prop} (W : KTurns prog w A target I fp wr n P Md St) {i : Nat} {h : Heap} {tk : Nat} {f : Flow} {s₃ : Shared}
    (st : St (i + 1) h) {m : Str → Option Value} (F : Fr h₀ env.locals h m) (hz : z ≤ s₃.toks)
    (q : LoopStepU h₀ env.locals wr (PyProof.Rows.ownOf h₀ fp h) (J (i + 1)) { s with heap := h, toks := tk } f s₃) : ∃ h' tk', s₃ = { s with heap := h', toks := tk' } ∧ Mid z h₀ env.locals wr St J (i + 1) h' tk' := by
  obtain ⟨_, h', tk', m', news', rfl, F', N', off', j'⟩ := q
  refine ⟨h', tk', rfl, hz, W.frame _ _ _ st fun b hb o e => ?_, m', news', F', N'.right, off', j'⟩
  cases q : h₀.get? b with
  | none => exact (N' _ (List.mem_append.mpr (.inl (PyProof.Rows.mem_ownOf hb q e)))).1
  | some o' =>
    have e' := F.keep b o' q
    rw [e] at e'
    cases e'
    exact F'.keep b o q
theorem loop_z {z : Nat} {R : Result → Shared → Prop} {I : Addr} {fp wr : List Addr} {n : Nat} {P Md : Nat → Value → Heap → Prop} {St : Nat → Heap → Prop} (W : KTurns prog w A target I fp wr n P Md St)
    (hL : env.locals ∉ fp) (hwr : ∀ b ∈ wr, h₀.get? b = none) (J : Nat → (Str → Option Value) → List (Addr × Obj) → Prop) (start : Mid z h₀ env.locals wr St J 0 s.heap s.toks)
    (turn : ∀ i v m₁ news₁ h₁ tk₁ own, i < n → z ≤ tk₁ → P i v h₁ → J i m₁ news₁ → (∀ p ∈ news₁, p.1 ∉ wr) → (∀ p ∈ own, p.1 ∈ fp) → (∀ p ∈ own, h₁.get? p.1 = some p.2) → (∀ b ∈ fp, h₀.get? b = none → ∀ o, h₁.get? b = some o → (b, o) ∈ own) → St (i + 1) h₁ →
      Fr h₀ env.locals h₁ m₁ → News h₀ env.locals h₁ (own ++ news₁) →
      wpAny (model prog w) A (assign target env v) (fun _ s₂ => wpAny (model prog w) A (execs body env)
        (LoopStepV h₀ env.locals wr own (J (i + 1)) { s with heap := h₁, toks := tk₁ } (fun v s' => R (.ok (.ret v)) s') fun s' => R (.ok .next) s') (notedBy (model prog w) A env fun e s' => R (.error e) s') s₂) (notedBy (model prog w) A env fun e s' => R (.error e) s') { s with heap := h₁, toks := tk₁ })
    (fin : ∀ h' tk m' news', z ≤ tk → Fr h₀ env.locals h' m' → News h₀ env.locals h' news' → (∀ p ∈ news', p.1 ∉ wr) → J n m' news' → R (.ok .next) { s with heap := h', toks := tk }) :
    codeAny (model prog w) A (.forLoop target (.ref I) body [] env) R s := by
  have hLw : env.locals ∉ wr := fun h => hL (W.sub _ h)
  refine codeAny_forLoop_any (fun k s' => ∃ i h tk, k + i = n + 1 ∧ i ≤ n ∧ s' = { s with heap := h, toks := tk } ∧ Mid z h₀ env.locals wr St J i h tk) ?_ (n + 1) ⟨0, s.heap, s.toks, rfl, Nat.zero_le _, rfl, start⟩
  rintro k _ ⟨i, h, tk, hk, hi, rfl, mid⟩
  obtain ⟨m, news, F, N, off, j⟩ := mid.rest
  rcases Nat.lt_or_ge i n with hlt | hge
  · refine wpAny_mono (wpAny_toks_of (n := z) (E := notedBy (model prog w) A env fun e s' => R (.error e) s') mid.low (W.item i _ (fun r s₁ => ∃ v h₁, r = some v ∧ Md i v h₁ ∧ (∀ b o, b ∉ wr → h.get? b = some o → h₁.get? b = some o) ∧ ∃ tk₁, s₁ = { s with heap := h₁, toks := tk₁ }) _ hlt mid.st fun v h₁ tk₁ hm hk₁ => ⟨v, h₁, rfl, hm, hk₁, tk₁, rfl⟩)) ?_ fun _ _ e => e.2
    rintro _ _ ⟨hz, v, h₁, rfl, hm, hk₁, tk₁, rfl⟩
    refine W.go i v _ _ _ hm fun h₂ hP st₂ hk₂ => ?_
    obtain ⟨F₂, N₂⟩ := stand hLw hwr F N off fun b o hb e => hk₂ b o hb (hk₁ b o hb e)
    have own := PyProof.Rows.news_ownOf (h₀ := h₀) (h := h₂) hL
    have go := turn i v m news h₂ tk₁ (PyProof.Rows.ownOf h₀ fp h₂) hlt hz hP j off PyProof.Rows.ownOf_sub (fun p hp => (own p hp).1) (fun b hb hn o e => PyProof.Rows.mem_ownOf hb hn e) st₂ F₂ (own.append N₂)
    refine wpAny_mono (wpAny_toks_of (n := z) hz go) (fun _ s₂ x => wpAny_mono (wpAny_toks_of (n := z) x.1 x.2) (fun f s₃ y => ?_) fun _ _ e => e.2) fun _ _ e => e.2
    obtain ⟨hz₃, y⟩ := y
    cases f with
    | ret v => exact y
    | brk => exact y
    | cont =>
      obtain ⟨h', tk', rfl, mid'⟩ := after_turn (J := J) W st₂ F₂ hz₃ y
      exact ⟨k - 1, by omega, i + 1, h', tk', by omega, hlt, rfl, mid'⟩
    | next =>
      obtain ⟨h', tk', rfl, mid'⟩ := after_turn (J := J) W st₂ F₂ hz₃ y
      exact ⟨k - 1, by omega, i + 1, h', tk', by omega, hlt, rfl, mid'⟩
  · have e : i = n := Nat.le_antisymm hi hge
    subst e
    refine wpAny_mono (wpAny_toks_of (n := z) (E := notedBy (model prog w) A env fun e s' => R (.error e) s') mid.low (W.done _ (fun r s₁ => ∃ h₁, r = none ∧ (∀ b o, b ∉ wr → h.get? b = some o → h₁.get? b = some o) ∧ ∃ tk₁, s₁ = { s with heap := h₁, toks := tk₁ }) _ mid.st fun h₁ tk₁ hk₁ => ⟨h₁, rfl, hk₁, tk₁, rfl⟩)) ?_ fun _ _ e => e.2
    rintro _ _ ⟨hz, h₁, rfl, hk₁, tk₁, rfl⟩
    obtain ⟨F₁, N₁⟩ := stand hLw hwr F N off hk₁
    exact wpAny_execs_nil (fin h₁ tk₁ m news hz F₁ N₁ off j)
theorem For_z (z : Nat) {iter : PySem.Expr} {pos : Pos} {m : Str → Option Value} (_F : Fr h₀ env.locals s.heap m) (hz : z ≤ s.toks)
    (h : wpAny (model prog w) A (eval iter env) (fun xv s₁ => wpAny (model prog w) A (pyIter xv) (fun it s₂ => TurnsZ z prog w A h₀ env target body Q E it s₂) E s₁) E s)
    (hs : ∀ x, foldedSetIterable iter env x = pure x) (hE : PassesOwn (model prog w) A env E) : wpAny (model prog w) A (exec (.For target iter body [] pos) env) Q E s := by
  refine wpAny_For (wpAny_mono (wpAny_toks_of (n := z) hz h) (fun xv s₁ x => wpAny_mono (wpAny_toks_of (n := z) x.1 x.2) (fun it s₂ y => ?_) fun _ _ e => e.2) fun _ _ e => e.2) hs
  obtain ⟨hz₂, y⟩ := y
  obtain ⟨I, fp, wr, n, P, Md, St, J, rfl, W, hL, hwr, st, rest, turn, fin⟩ := y hz₂
  exact loop_z (R := fun r s' => match r with | .ok f => Q f s' | .error e => cameBackBy (model prog w) A env E e s') W hL hwr J ⟨hz₂, st, rest⟩
    (fun i v m₁ news₁ h₁ tk₁ own a z' b c d e f g st F₁ N₁ => wpAny_mono (turn i v m₁ news₁ h₁ tk₁ own a z' b c d e f g st F₁ N₁) (fun _ _ x => wpAny_passesOwn hE x) hE) fin
end
/-- a goal at which the walk stands still -/
noncomputable def Stop (P : Prop) : Prop := P
theorem stop {P : Prop} (h : Stop P) : P := h
/-- the names that a loop tells of -/
noncomputable def Names {σ : Type} (ps : σ → List (Str × Value)) (stored : List Str) (m₀ : Str → Option Value) (c : σ) (m : Str → Option Value) : Prop :=
  (∀ p ∈ ps c, m p.1 = some p.2) ∧ ∀ z, (∀ p ∈ ps c, z ≠ p.1) → stored.contains z = false → m z = m₀ z
noncomputable def LoopEnd {σ : Type} (h₀ : Heap) (L : Addr) (Led : σ → List (Addr × Obj)) (adr : List Addr) (Facts : List (Addr × Obj) → σ → Prop) (Ok : σ → Prop) (M : σ → (Str → Option Value) → Prop) (T R : List (Addr × Obj)) (s₁ s₂ : Shared) : Prop :=
  ∃ c add h' tk m' news', s₂ = { s₁ with heap := h', toks := tk } ∧ Fr h₀ L h' m' ∧ News h₀ L h' news' ∧ (∀ p ∈ Led c ++ (add ++ R), p ∈ news') ∧ (∀ p ∈ add, p.1 ∉ adr ∧ ∀ q ∈ R, q.1 ≠ p.1) ∧ Facts (add ++ T) c ∧ Ok c ∧ M c m'
noncomputable def LoopPost {σ : Type} (h₀ : Heap) (L : Addr) (Led : σ → List (Addr × Obj)) (adr : List Addr) (Facts : List (Addr × Obj) → σ → Prop) (Ok : σ → Prop) (M : σ → (Str → Option Value) → Prop) (T R : List (Addr × Obj)) (Q : Flow → Shared → Prop) (s₁ : Shared) (f : Flow) (s₂ : Shared) : Prop :=
  match f with
  | .ret v => Q (.ret v) s₂
  | .brk => Q .next s₂
  | _ => LoopEnd h₀ L Led adr Facts Ok M T R s₁ s₂
theorem LoopEnd.intro {σ : Type} {h₀ : Heap} {L : Addr} {Led : σ → List (Addr × Obj)} {adr : List Addr} {Facts : List (Addr × Obj) → σ → Prop} {Ok : σ → Prop} {M : σ → (Str → Option Value) → Prop} {T R : List (Addr × Obj)} {s₁ : Shared} (c : σ) (add : List (Addr × Obj)) {h' : Heap} {tk : Nat} {m' : Str → Option Value} {news' : List (Addr × Obj)}
    (F : Fr h₀ L h' m') (N : News h₀ L h' news') (hn : ∀ p ∈ Led c ++ (add ++ R), p ∈ news') (ha : ∀ p ∈ add, p.1 ∉ adr ∧ ∀ q ∈ R, q.1 ≠ p.1) (hf : Facts (add ++ T) c) (ho : Ok c) (hm : M c m') : LoopEnd h₀ L Led adr Facts Ok M T R s₁ { s₁ with heap := h', toks := tk } :=
  ⟨c, add, h', tk, m', news', rfl, F, N, hn, ha, hf, ho, hm⟩
section
variable {prog : Program} {w : World} {A : Around} {E : Value → Shared → Prop} {s : Shared} {env : Env} {h₀ : Heap} {target : PySem.Expr} {body : List Stmt} {Q : Flow → Shared → Prop}
theorem my_turns (z : Nat) {σ : Type} {I : Addr} {fp wr : List Addr} {n : Nat} {P Md : Nat → Value → Heap → Prop} {St : Nat → Heap → Prop} {hp : Heap} {tk0 : Nat} {m₀ : Str → Option Value} (W : KTurns prog w A target I fp wr n P Md St)
    (Led : σ → List (Addr × Obj)) (ps : σ → List (Str × Value)) (Facts : List (Addr × Obj) → σ → Prop) (stored : List Str) (Ok : Nat → σ → Prop) (c₀ : σ) {T₀ : List (Addr × Obj)} (S₀ : List (Addr × Obj)) (hS : ∀ p ∈ S₀, p ∈ T₀)
    (hfa : ∀ b ∈ fp, b ∈ wr ∨ b ∉ (Led c₀).map (·.1)) (hob : ∀ i h, St i h → ∀ b ∈ wr, ∃ o, h.get? b = some o) (hLf : env.locals ∉ fp) (hwr : ∀ b ∈ wr, h₀.get? b = none) (hnw : ∀ p ∈ Led c₀ ++ T₀, p.1 ∉ wr) (hst : St 0 hp)
    (F : Fr h₀ env.locals hp m₀) (N : News h₀ env.locals hp (Led c₀ ++ T₀)) (hT : ∀ p ∈ T₀, p.1 ∉ (Led c₀).map (·.1)) (hadr : ∀ c, (Led c).map (·.1) = (Led c₀).map (·.1)) (hf : Facts S₀ c₀) (hk : ∀ p ∈ ps c₀, m₀ p.1 = some p.2) (hok : Ok 0 c₀)
    (turn : ∀ i v c S R (u : Str → Option Value) h tk, i < n → z ≤ tk → P i v h → (∀ p ∈ S, p ∈ R) → (∀ p ∈ T₀, p ∈ R) → (∀ p ∈ R, p.1 ∉ (Led c₀).map (·.1)) → Facts S c → Ok i c →
      Fr h₀ env.locals h (kstB (fun z => if stored.contains z then u z else m₀ z) (ps c)) → News h₀ env.locals h (Led c ++ R) →
      wpAny (model prog w) A (assign target env v) (fun _ s₃ => wpAny (model prog w) A (execs body env) (LoopPost h₀ env.locals Led ((Led c₀).map (·.1)) Facts (Ok (i + 1)) (Names ps stored m₀) S R Q { s with heap := h, toks := tk }) E s₃) E { s with heap := h, toks := tk })
    (done : ∀ c ex (u : Str → Option Value) h tk, z ≤ tk → (∀ p ∈ ex, p.1 ∉ (Led c₀).map (·.1) ∧ ∀ q ∈ T₀, q.1 ≠ p.1) → Facts (ex ++ S₀) c → Ok n c → Fr h₀ env.locals h (kstB (fun z => if stored.contains z then u z else m₀ z) (ps c)) → News h₀ env.locals h (Led c ++ (ex ++ T₀)) → Q .next { s with heap := h, toks := tk }) :
    TurnsZ z prog w A h₀ env target body Q E (.ref I) { s with heap := hp, toks := tk0 } := by
  have hcan : ∀ (c : σ) (m : Str → Option Value), Names ps stored m₀ c m → m = kstB (fun z => if stored.contains z then m z else m₀ z) (ps c) := by
    intro c m hm
    funext z
    refine (kstB_eq hm.1 fun hz => ?_).symm
    by_cases q : stored.contains z = true
    · rw [if_pos q]
    · rw [if_neg q]; exact (hm.2 z hz (by simpa using q)).symm
  let J : Nat → (Str → Option Value) → List (Addr × Obj) → Prop := fun i m nx => ∃ c T ex, nx = Led c ++ T ∧ T = ex ++ T₀ ∧ (∀ p ∈ ex, p.1 ∉ (Led c₀).map (·.1) ∧ ∀ q ∈ T₀, q.1 ≠ p.1) ∧ Facts (ex ++ S₀) c ∧ Ok i c ∧ Names ps stored m₀ c m
  have adr_mem : ∀ (c : σ) (p : Addr × Obj), p ∈ Led c → p.1 ∈ (Led c₀).map (·.1) := fun c p hp => hadr c ▸ List.mem_map.mpr ⟨p, hp, rfl⟩
  have adr_wr : ∀ b ∈ (Led c₀).map (·.1), b ∉ wr := fun b hb => by
    obtain ⟨p, hp, rfl⟩ := List.mem_map.mp hb
    exact hnw p (List.mem_append.mpr (.inl hp))
  refine fun _ => ⟨I, fp, wr, n, P, Md, St, J, rfl, W, hLf, hwr, hst, ⟨m₀, Led c₀ ++ T₀, F, N, hnw, ⟨c₀, T₀, [], rfl, rfl, (fun _ h => nomatch h), hf, hok, hk, fun _ _ _ => rfl⟩⟩, ?_, ?_⟩
  · rintro i v m₁ news₁ h₁ tk₁ own hin hz hP ⟨c, T, ex, rfl, hex, hexa, hfc, hokc, hnm⟩ hoff hown hget hall hst₁ F₁ N₁
    have hT0 : ∀ p ∈ T₀, p ∈ T := fun p hp => hex ▸ List.mem_append.mpr (.inr hp)
    have hTa : ∀ p ∈ T, p.1 ∉ (Led c₀).map (·.1) := fun p hp => by
      rw [hex] at hp
      exact (List.mem_append.mp hp).elim (fun h => (hexa p h).1) (hT p)
    rw [hcan c m₁ hnm] at F₁
    have hownA : ∀ p ∈ own, p.1 ∉ (Led c₀).map (·.1) := fun p hp => by
      rcases hfa p.1 (hown p hp) with h | h
      · exact fun q => adr_wr _ q h
      · exact h
    have N₂ : News h₀ env.locals h₁ (Led c ++ (T ++ own)) := fun p hp => N₁ p (by
      rcases List.mem_append.mp hp with h | h
      · exact List.mem_append.mpr (.inr (List.mem_append.mpr (.inl h)))
      · rcases List.mem_append.mp h with h | h
        · exact List.mem_append.mpr (.inr (List.mem_append.mpr (.inr h)))
        · exact List.mem_append.mpr (.inl h))
    have fin : ∀ s₃, LoopEnd h₀ env.locals Led ((Led c₀).map (·.1)) Facts (Ok (i + 1)) (Names ps stored m₀) (ex ++ S₀) (T ++ own) { s with heap := h₁, toks := tk₁ } s₃ → LoopStepU h₀ env.locals wr own (J (i + 1)) { s with heap := h₁, toks := tk₁ } .next s₃ := by
      rintro s₃ ⟨c', add, h', tk, m', news', e, F', N', hn, ha, hf', ho', hm'⟩
      refine ⟨rfl, h', tk, m', Led c' ++ (add ++ T), e, F', fun p hp => ?_, fun p hp => ?_, c', add ++ T, add ++ ex, rfl, by rw [hex, List.append_assoc], fun p hp => ?_, by rw [List.append_assoc]; exact hf', ho', hm'⟩
      · refine N' p (hn p ?_)
        rcases List.mem_append.mp hp with h | h
        · exact List.mem_append.mpr (.inr (List.mem_append.mpr (.inr (List.mem_append.mpr (.inr h)))))
        · rcases List.mem_append.mp h with h | h
          · exact List.mem_append.mpr (.inl h)
          · rcases List.mem_append.mp h with h | h
            · exact List.mem_append.mpr (.inr (List.mem_append.mpr (.inl h)))
            · exact List.mem_append.mpr (.inr (List.mem_append.mpr (.inr (List.mem_append.mpr (.inl h)))))
      · rcases List.mem_append.mp hp with h | h
        · exact adr_wr _ (adr_mem c' p h)
        · rcases List.mem_append.mp h with h | h
          · intro hw
            obtain ⟨o, hbo⟩ := hob _ _ hst₁ _ hw
            exact (ha p h).2 (p.1, o) (List.mem_append.mpr (.inr (hall p.1 (W.sub _ hw) (hwr _ hw) o hbo))) rfl
          · exact hoff p (List.mem_append.mpr (.inr h))
      · rcases List.mem_append.mp hp with h | h
        · exact ⟨(ha p h).1, fun q hq => (ha p h).2 q (List.mem_append.mpr (.inl (hT0 q hq)))⟩
        · exact hexa p h
    refine wpAny_mono (turn i v c (ex ++ S₀) (T ++ own) m₁ h₁ tk₁ hin hz hP (fun p hp => List.mem_append.mpr (.inl (hex ▸ (List.mem_append.mp hp).elim (fun h => List.mem_append.mpr (.inl h)) fun h => List.mem_append.mpr (.inr (hS p h))))) (fun p hp => List.mem_append.mpr (.inl (hT0 p hp))) (fun p hp => (List.mem_append.mp hp).elim (hTa p) (hownA p)) hfc hokc F₁ N₂) (fun _ s₂ h₂ => wpAny_mono h₂ (fun f s₃ p => ?_) fun _ _ e => e) fun _ _ e => e
    cases f with
    | ret v => exact .ret p
    | brk => exact .brk p
    | next => exact .next (fin _ p)
    | cont => exact .cont (fin _ p)
  · rintro h' tk m' news' hz F' N' _ ⟨c, T, ex, rfl, rfl, hexa, hfc, hokc, hnm⟩
    rw [hcan c m' hnm] at F'
    exact done c ex m' h' tk hz hexa hfc hokc F' N'
theorem turns_range_z (z : Nat) {σ : Type} {r : Addr} {b₀ : Int} {t₀ u₀ v₀ : Tok} {m₀ : Str → Option Value} (n : Nat) (Led : σ → List (Addr × Obj)) (ps : σ → List (Str × Value)) (Facts : List (Addr × Obj) → σ → Prop) (stored : List Str) (Ok : Nat → σ → Prop) (c₀ : σ) {T₀ : List (Addr × Obj)} (S₀ : List (Addr × Obj)) (hS : ∀ p ∈ S₀, p ∈ T₀)
    (hh : A.handled = none) (hr : IsRange s.heap r 0 b₀ 1 t₀ u₀ v₀) (hsmall : Builtin.Range.small 0 b₀ 1 = true) (hsz : Builtin.Range.rangeSize 0 b₀ 1 = (n : Int)) (hgo : ∀ it v, letOwnedTupleGo target it v = pure ())
    (F : Fr h₀ env.locals s.heap m₀) (N : News h₀ env.locals s.heap (Led c₀ ++ T₀)) (hT : ∀ p ∈ T₀, p.1 ∉ (Led c₀).map (·.1)) (hadr : ∀ c, (Led c).map (·.1) = (Led c₀).map (·.1)) (hf : Facts S₀ c₀) (hk : ∀ p ∈ ps c₀, m₀ p.1 = some p.2) (hok : Ok 0 c₀)
    (turn : ∀ (i : Nat) t c S R (u : Str → Option Value) h tk, i < n → z ≤ tk → (∀ p ∈ S, p ∈ R) → (∀ p ∈ T₀, p ∈ R) → (∀ p ∈ R, p.1 ∉ (Led c₀).map (·.1)) → Facts S c → Ok i c →
      Fr h₀ env.locals h (kstB (fun z => if stored.contains z then u z else m₀ z) (ps c)) → News h₀ env.locals h (Led c ++ R) →
      wpAny (model prog w) A (assign target env (.int i t)) (fun _ s₃ => wpAny (model prog w) A (execs body env) (LoopPost h₀ env.locals Led ((Led c₀).map (·.1)) Facts (Ok (i + 1)) (Names ps stored m₀) S R Q { s with heap := h, toks := tk }) E s₃) E { s with heap := h, toks := tk })
    (done : ∀ c ex (u : Str → Option Value) h tk, z ≤ tk → (∀ p ∈ ex, p.1 ∉ (Led c₀).map (·.1) ∧ ∀ q ∈ T₀, q.1 ≠ p.1) → Facts (ex ++ S₀) c → Ok n c → Fr h₀ env.locals h (kstB (fun z => if stored.contains z then u z else m₀ z) (ps c)) → News h₀ env.locals h (Led c ++ (ex ++ T₀)) → Q .next { s with heap := h, toks := tk }) :
    wpAny (model prog w) A (pyIter (.ref r)) (fun it s₂ => TurnsZ z prog w A h₀ env target body Q E it s₂) E s := by
  refine wpAny_pyIter_range hr hsmall ?_
  have W : Walks prog w A s.heap.objs.size [s.heap.objs.size] [s.heap.objs.size] n (fun i v => i < n ∧ ∃ t, v = .int (0 + i * 1) t)
      (fun i h => IsRangeIter h s.heap.objs.size (0 + (i : Nat) * 1) ((n : Int) - (i : Nat)) 1) := (Walks.range hh _ 0 1 n).bound
  refine my_turns z (tk0 := s.toks) (KTurns.ofWalks W fun i v s Q E _ q => wpAny_of_eq (hgo _ _) q) Led ps Facts stored Ok c₀ S₀ hS (fun b hb => .inl hb) ?_ ?_ ?_ ?_ (by show IsRangeIter _ _ _ _ _; rw [hsz]; simpa using Heap.get?_push_size _ rfl) (F.push _) (fun p hp => ⟨Heap.get?_push_of_some _ (N p hp).1, (N p hp).2⟩) hT hadr hf hk hok ?_ done
  · intro i h hi b hb
    rw [List.mem_singleton.mp hb]
    exact ⟨_, hi⟩
  · intro hm
    exact absurd F.ns.lt ((List.mem_singleton.mp hm) ▸ Nat.lt_irrefl _)
  · intro b hb
    rw [List.mem_singleton.mp hb]
    exact next_is_new F
  · intro p hp hI
    exact absurd (Heap.lt_size (N p hp).1) ((List.mem_singleton.mp hI) ▸ Nat.lt_irrefl _)
  · rintro i v c S R u h tk hi hz ⟨_, t, rfl⟩ h1 h0 h2 h3 h4 h5 h6
    have e1 : (0 : Int) + (i : Int) * 1 = (i : Int) := by omega
    rw [e1]
    exact turn i t c S R u h tk hi hz h1 h0 h2 h3 h4 h5 h6
theorem turns_list_z (z : Nat) {σ : Type} {l : Addr} {vs : List Value} {m₀ : Str → Option Value} (Led : σ → List (Addr × Obj)) (ps : σ → List (Str × Value)) (Facts : List (Addr × Obj) → σ → Prop) (stored : List Str) (Ok : Nat → σ → Prop) (c₀ : σ) {T₀ : List (Addr × Obj)} (S₀ : List (Addr × Obj)) (hS : ∀ p ∈ S₀, p ∈ T₀)
    (hh : A.handled = none) (hl : s.heap.IsList l vs.toArray) (hlL : l ≠ env.locals) (hla : l ∉ (Led c₀).map (·.1))
    (F : Fr h₀ env.locals s.heap m₀) (N : News h₀ env.locals s.heap (Led c₀ ++ T₀)) (hT : ∀ p ∈ T₀, p.1 ∉ (Led c₀).map (·.1)) (hadr : ∀ c, (Led c).map (·.1) = (Led c₀).map (·.1)) (hf : Facts S₀ c₀) (hk : ∀ p ∈ ps c₀, m₀ p.1 = some p.2) (hok : Ok 0 c₀)
    (turn : ∀ (i : Nat) v c S R (u : Str → Option Value) h tk, vs[i]? = some v → z ≤ tk → (∀ p ∈ S, p ∈ R) → (∀ p ∈ T₀, p ∈ R) → (∀ p ∈ R, p.1 ∉ (Led c₀).map (·.1)) → Facts S c → Ok i c →
      Fr h₀ env.locals h (kstB (fun z => if stored.contains z then u z else m₀ z) (ps c)) → News h₀ env.locals h (Led c ++ R) →
      wpAny (model prog w) A (assign target env v) (fun _ s₃ => wpAny (model prog w) A (execs body env) (LoopPost h₀ env.locals Led ((Led c₀).map (·.1)) Facts (Ok (i + 1)) (Names ps stored m₀) S R Q { s with heap := h, toks := tk }) E s₃) E { s with heap := h, toks := tk })
    (done : ∀ c ex (u : Str → Option Value) h tk, z ≤ tk → (∀ p ∈ ex, p.1 ∉ (Led c₀).map (·.1) ∧ ∀ q ∈ T₀, q.1 ≠ p.1) → Facts (ex ++ S₀) c → Ok vs.length c → Fr h₀ env.locals h (kstB (fun z => if stored.contains z then u z else m₀ z) (ps c)) → News h₀ env.locals h (Led c ++ (ex ++ T₀)) → Q .next { s with heap := h, toks := tk }) :
    wpAny (model prog w) A (pyIter (.ref l)) (fun it s₂ => TurnsZ z prog w A h₀ env target body Q E it s₂) E s := by
  obtain ⟨lo, hlo, _⟩ := id hl
  have hne : l ≠ s.heap.objs.size := Nat.ne_of_lt (Heap.lt_size hlo)
  refine wpAny_pyIter_list hl ?_
  have W := Walks.list (prog := prog) (w := w) hh s.heap.objs.size l hne vs.toArray
  have hlen : vs.toArray.size = vs.length := by simp
  rw [hlen] at W
  refine my_turns z (tk0 := s.toks) (KTurns.ofWalks W fun i v s Q E st q => letGo_listiter st.1 q) Led ps Facts stored Ok c₀ S₀ hS ?_ ?_ ?_ ?_ ?_ ⟨⟨_, Heap.get?_push_size _ rfl, rfl, rfl⟩, hl.at fun o e => Heap.get?_push_of_some _ e⟩ (F.push _) (fun p hp => ⟨Heap.get?_push_of_some _ (N p hp).1, (N p hp).2⟩) hT hadr hf hk hok ?_ done
  · intro b hb
    rcases List.mem_cons.mp hb with e | hb
    · exact .inl (e ▸ List.mem_singleton.mpr rfl)
    · exact .inr ((List.mem_singleton.mp hb) ▸ hla)
  · intro i h hi b hb
    rw [List.mem_singleton.mp hb]
    obtain ⟨⟨o, ho, _⟩, _⟩ := hi
    exact ⟨o, ho⟩
  · intro hm
    rcases List.mem_cons.mp hm with e | hm
    · exact absurd F.ns.lt (e ▸ Nat.lt_irrefl _)
    · exact hlL (List.mem_singleton.mp hm).symm
  · intro b hb
    rw [List.mem_singleton.mp hb]
    exact next_is_new F
  · intro p hp hI
    exact absurd (Heap.lt_size (N p hp).1) ((List.mem_singleton.mp hI) ▸ Nat.lt_irrefl _)
  · intro i v c S R u h tk hi hz hP h1 h0 h2 h3 h4 h5 h6
    exact turn i v c S R u h tk (by simpa using hP) hz h1 h0 h2 h3 h4 h5 h6
theorem turns_tuple_z (z : Nat) {σ : Type} {l : Addr} {vs : List Value} {m₀ : Str → Option Value} (Led : σ → List (Addr × Obj)) (ps : σ → List (Str × Value)) (Facts : List (Addr × Obj) → σ → Prop) (stored : List Str) (Ok : Nat → σ → Prop) (c₀ : σ) {T₀ : List (Addr × Obj)} (S₀ : List (Addr × Obj)) (hS : ∀ p ∈ S₀, p ∈ T₀)
    (hh : A.handled = none) (hl : s.heap.IsTuple l vs.toArray) (hgo : ∀ it v, letOwnedTupleGo target it v = pure ()) (hlL : l ≠ env.locals) (hla : l ∉ (Led c₀).map (·.1))
    (F : Fr h₀ env.locals s.heap m₀) (N : News h₀ env.locals s.heap (Led c₀ ++ T₀)) (hT : ∀ p ∈ T₀, p.1 ∉ (Led c₀).map (·.1)) (hadr : ∀ c, (Led c).map (·.1) = (Led c₀).map (·.1)) (hf : Facts S₀ c₀) (hk : ∀ p ∈ ps c₀, m₀ p.1 = some p.2) (hok : Ok 0 c₀)
    (turn : ∀ (i : Nat) v c S R (u : Str → Option Value) h tk, vs[i]? = some v → z ≤ tk → (∀ p ∈ S, p ∈ R) → (∀ p ∈ T₀, p ∈ R) → (∀ p ∈ R, p.1 ∉ (Led c₀).map (·.1)) → Facts S c → Ok i c →
      Fr h₀ env.locals h (kstB (fun z => if stored.contains z then u z else m₀ z) (ps c)) → News h₀ env.locals h (Led c ++ R) →
      wpAny (model prog w) A (assign target env v) (fun _ s₃ => wpAny (model prog w) A (execs body env) (LoopPost h₀ env.locals Led ((Led c₀).map (·.1)) Facts (Ok (i + 1)) (Names ps stored m₀) S R Q { s with heap := h, toks := tk }) E s₃) E { s with heap := h, toks := tk })
    (done : ∀ c ex (u : Str → Option Value) h tk, z ≤ tk → (∀ p ∈ ex, p.1 ∉ (Led c₀).map (·.1) ∧ ∀ q ∈ T₀, q.1 ≠ p.1) → Facts (ex ++ S₀) c → Ok vs.length c → Fr h₀ env.locals h (kstB (fun z => if stored.contains z then u z else m₀ z) (ps c)) → News h₀ env.locals h (Led c ++ (ex ++ T₀)) → Q .next { s with heap := h, toks := tk }) :
    wpAny (model prog w) A (pyIter (.ref l)) (fun it s₂ => TurnsZ z prog w A h₀ env target body Q E it s₂) E s := by
  obtain ⟨lo, hlo, _⟩ := id hl
  have hne : l ≠ s.heap.objs.size := Nat.ne_of_lt (Heap.lt_size hlo)
  refine wpAny_pyIter_tuple hl ?_
  have W := Walks.tuple (prog := prog) (w := w) hh s.heap.objs.size l hne vs.toArray
  have hlen : vs.toArray.size = vs.length := by simp
  rw [hlen] at W
  refine my_turns z (tk0 := s.toks) (KTurns.ofWalks W fun i v s Q E _ q => wpAny_of_eq (hgo _ _) q) Led ps Facts stored Ok c₀ S₀ hS ?_ ?_ ?_ ?_ ?_ ⟨⟨_, Heap.get?_push_size _ rfl, rfl, rfl⟩, hl.at fun o e => Heap.get?_push_of_some _ e⟩ (F.push _) (fun p hp => ⟨Heap.get?_push_of_some _ (N p hp).1, (N p hp).2⟩) hT hadr hf hk hok ?_ done
  · intro b hb
    rcases List.mem_cons.mp hb with e | hb
    · exact .inl (e ▸ List.mem_singleton.mpr rfl)
    · exact .inr ((List.mem_singleton.mp hb) ▸ hla)
  · intro i h hi b hb
    rw [List.mem_singleton.mp hb]
    obtain ⟨⟨o, ho, _⟩, _⟩ := hi
    exact ⟨o, ho⟩
  · intro hm
    rcases List.mem_cons.mp hm with e | hm
    · exact absurd F.ns.lt (e ▸ Nat.lt_irrefl _)
    · exact hlL (List.mem_singleton.mp hm).symm
  · intro b hb
    rw [List.mem_singleton.mp hb]
    exact next_is_new F
  · intro p hp hI
    exact absurd (Heap.lt_size (N p hp).1) ((List.mem_singleton.mp hI) ▸ Nat.lt_irrefl _)
  · intro i v c S R u h tk hi hz hP h1 h0 h2 h3 h4 h5 h6
    exact turn i v c S R u h tk (by simpa using hP) hz h1 h0 h2 h3 h4 h5 h6
end
theorem nm_cons {stored : List Str} {x z : Str} {a b : Option Value} (h : stored.contains z = false) (hx : stored.contains x = true) : (if z = x then a else b) = b :=
  if_neg (fun e => by rw [e, hx] at h; cases h)
theorem nm_end {stored : List Str} {z : Str} {a b : Option Value} (h : stored.contains z = false) : (if stored.contains z = true then a else b) = b := if_neg (by rw [h]; exact Bool.false_ne_true)
theorem nm_sub {stored sub : List Str} {z : Str} {a b : Option Value} (h : stored.contains z = false) (hs : sub.all (fun x => stored.contains x) = true) : (if sub.contains z = true then a else b) = b := by
  refine if_neg fun q => ?_
  have := List.all_eq_true.mp hs z (by simpa using q)
  rw [h] at this
  cases this
theorem allLt_mem {d : Nat} {l : List (Addr × Obj)} (h : AllLt d l) (p : Addr × Obj) (hp : p ∈ l) : p.1 < d := by
  induction l with
  | nil => cases hp
  | cons q r ih =>
    rcases List.mem_cons.mp hp with e | e
    · rw [e]; exact h.1
    · exact ih h.2 e
/-- what is new lies apart -/
theorem apart {D : Addr} {o : Obj} {adr : List Addr} {R : List (Addr × Obj)} (h1 : ∀ a ∈ adr, a < D) (h2 : AllLt D R) : (D, o).1 ∉ adr ∧ ∀ q ∈ R, q.1 ≠ (D, o).1 :=
  ⟨fun h => Nat.lt_irrefl _ (h1 _ h), fun q hq => Nat.ne_of_lt (allLt_mem h2 q hq)⟩
/-- a goal behind a step whose tokens are known to stand above a bound -/
noncomputable def After (P G : Prop) : Prop := P → G
section
variable {prog : Program} {w : World} {A : Around} {E : Value → Shared → Prop} {s : Shared} {env : Env}
theorem with_after {α : Type} {M : Model} {z : Nat} {t : Sem α} {Q : α → Shared → Prop} (h0 : z ≤ s.toks) (h : wpAny M A t (fun a s' => After (z ≤ s'.toks) (Q a s')) E s) : wpAny M A t Q E s :=
  wpAny_mono (wpAny_toks_of h0 h) (fun _ _ x => x.2 x.1) fun _ _ x => x.2
/-- a turn's walk with what stands behind it as a letter (smaller terms) -/
theorem turn_abs {M : Model} {target : PySem.Expr} {body : List Stmt} {v : Value} {Q : Flow → Shared → Prop} (h : ∀ QX : Flow → Shared → Prop, (∀ f s', Q f s' → QX f s') → wpAny M A (assign target env v) (fun _ s₃ => wpAny M A (execs body env) QX E s₃) E s) :
    wpAny M A (assign target env v) (fun _ s₃ => wpAny M A (execs body env) Q E s₃) E s := h Q fun _ _ x => x
theorem execs_after {M : Model} {z : Nat} {st : Stmt} {rest : List Stmt} {Q : Flow → Shared → Prop} (h0 : z ≤ s.toks)
    (h : wpAny M A (exec st env) (fun f s' => After (z ≤ s'.toks) (match f with | .next => wpAny M A (execs rest env) Q E s' | f => Q f s')) E s) : wpAny M A (execs (st :: rest) env) Q E s := by
  refine wpAny_execs_cons (wpAny_mono (with_after h0 h) (fun f s' x => ?_) fun _ _ x => x)
  cases f <;> exact x
end
noncomputable def tris : List (Int × Int × Int) := [(0, 1, 5), (1, 6, 5), (1, 2, 6), (2, 7, 6), (2, 3, 7), (3, 8, 7), (3, 4, 8), (5, 6, 9), (6, 10, 9), (6, 7, 10), (7, 11, 10), (7, 8, 11), (9, 10, 12), (10, 13, 12), (10, 11, 13), (12, 13, 14)]
noncomputable def TriIn (objs : List (Addr × Obj)) (v : Value) (x : Int × Int × Int) : Prop := ∃ a t u w, v = .ref a ∧ (a, tupOf [.int x.1 t, .int x.2.1 u, .int x.2.2 w] 0) ∈ objs
noncomputable def triSt (j : Nat) : Int := [0, 5, 9, 12, 14].getD j 0
noncomputable def triUp (j : Nat) : Nat → List (Int × Int × Int)
  | 0 => []
  | i + 1 => triUp j i ++ ((triSt j + i, triSt j + i + 1, triSt (j + 1) + i) :: (if i + j < 3 then [(triSt j + i + 1, triSt (j + 1) + i + 1, triSt (j + 1) + i)] else []))
theorem triUp_len (j i : Nat) : (triUp j i).length ≤ 2 * i := by
  induction i with
  | zero => exact Nat.le_refl _
  | succ i ih =>
    rw [triUp, List.length_append, List.length_cons]
    split <;> simp only [List.length_cons, List.length_nil] <;> lia
noncomputable def triRows : Nat → List (Int × Int × Int)
  | 0 => []
  | j + 1 => triRows j ++ triUp j (4 - j)
theorem triRows_all : triRows 4 = tris := by decide +kernel
theorem tri_mono {T T' : List (Addr × Obj)} (h : ∀ p ∈ T, p ∈ T') {v : Value} {x : Int × Int × Int} : TriIn T v x → TriIn T' v x := fun ⟨a, t, u, w, e, hm⟩ => ⟨a, t, u, w, e, h _ hm⟩
theorem tri_one {T add : List (Addr × Obj)} {vs : Array Value} {X : List (Int × Int × Int)} {j i : Nat} {D : Addr} {t u w : Tok} (hij : ¬ i + j < 3) (h : All2 (TriIn T) vs.toList (X ++ triUp j i))
    (m : (D, tupOf [.int (triSt j + i) t, .int (triSt j + i + 1) u, .int (triSt (j + 1) + i) w] 0) ∈ add) : All2 (TriIn (add ++ T)) (vs.push (.ref D)).toList (X ++ triUp j (i + 1)) := by
  rw [triUp, if_neg hij, ← List.append_assoc, Array.toList_push]
  exact (h.mono fun _ _ => tri_mono fun p hp => List.mem_append.mpr (.inr hp)).snoc ⟨D, t, u, w, rfl, List.mem_append.mpr (.inl m)⟩
theorem tri_two {T add : List (Addr × Obj)} {vs : Array Value} {X : List (Int × Int × Int)} {j i : Nat} {D D2 : Addr} {t u w t2 u2 w2 : Tok} (hij : i + j < 3) (h : All2 (TriIn T) vs.toList (X ++ triUp j i))
    (m : (D, tupOf [.int (triSt j + i) t, .int (triSt j + i + 1) u, .int (triSt (j + 1) + i) w] 0) ∈ add)
    (m2 : (D2, tupOf [.int (triSt j + i + 1) t2, .int (triSt (j + 1) + i + 1) u2, .int (triSt (j + 1) + i) w2] 0) ∈ add) : All2 (TriIn (add ++ T)) ((vs.push (.ref D)).push (.ref D2)).toList (X ++ triUp j (i + 1)) := by
  have e : X ++ triUp j (i + 1) = (X ++ triUp j i ++ [(triSt j + i, triSt j + i + 1, triSt (j + 1) + i)]) ++ [(triSt j + i + 1, triSt (j + 1) + i + 1, triSt (j + 1) + i)] := by
    rw [triUp, if_pos hij]; simp
  rw [e, Array.toList_push, Array.toList_push]
  exact ((h.mono fun _ _ => tri_mono fun p hp => List.mem_append.mpr (.inr hp)).snoc ⟨D, t, u, w, rfl, List.mem_append.mpr (.inl m)⟩).snoc ⟨D2, t2, u2, w2, rfl, List.mem_append.mpr (.inl m2)⟩
theorem mem_two {c e1 e2 x : Addr × Obj} {R : List (Addr × Obj)} : ∀ p ∈ [c] ++ ([e2, e1] ++ R), p ∈ e2 :: e1 :: x :: c :: R := by
  intro p hp
  simp only [List.mem_append, List.mem_cons, List.not_mem_nil, or_false] at *
  rcases hp with h | (h | h) | h <;> simp [h]
theorem mem_one {c e1 x : Addr × Obj} {R : List (Addr × Obj)} : ∀ p ∈ [c] ++ ([e1] ++ R), p ∈ e1 :: x :: c :: R := by
  intro p hp
  simp only [List.mem_append, List.mem_cons, List.not_mem_nil, or_false] at *
  rcases hp with h | h | h <;> simp [h]
theorem starts_in {l : Addr} {n : Nat} {a0 a1 a2 a3 a4 : Tok} {R : List (Addr × Obj)} {j : Nat} (_hm : (l, listOf #[.int 0 a0, .int 5 a1, .int 9 a2, .int 12 a3, .int 14 a4] n) ∈ R) (h : j < 4) :
    ∃ t u, (#[.int 0 a0, .int 5 a1, .int 9 a2, .int 12 a3, .int 14 a4] : Array Value).toList[((j : Int)).toNat]? = some (.int (triSt j) t) ∧ (#[.int 0 a0, .int 5 a1, .int 9 a2, .int 12 a3, .int 14 a4] : Array Value).toList[((j : Int) + 1).toNat]? = some (.int (triSt (j + 1)) u) := by
  rcases j with _ | _ | _ | _ | j
  · exact ⟨_, _, rfl, rfl⟩
  · exact ⟨_, _, rfl, rfl⟩
  · exact ⟨_, _, rfl, rfl⟩
  · exact ⟨_, _, rfl, rfl⟩
  · omega
theorem range_j {j : Nat} (h : j < 4) : Builtin.Range.small 0 (4 - (j : Int)) 1 = true ∧ Builtin.Range.rangeSize 0 (4 - (j : Int)) 1 = ((4 - j : Nat) : Int) := by
  rcases j with _ | _ | _ | _ | j
  · exact ⟨rfl, rfl⟩
  · exact ⟨rfl, rfl⟩
  · exact ⟨rfl, rfl⟩
  · exact ⟨rfl, rfl⟩
  · omega
theorem triRows_len {j : Nat} (h : j < 4) : (triRows j).length ≤ 16 := by
  rcases j with _ | _ | _ | _ | j
  · decide
  · decide
  · decide
  · decide
  · omega
local macro_rules | `(tactic| walk_at "pyIter ref") => `(tactic| (k_here; (with_reducible show wpAny _ _ (pyIter (Value.ref _)) (fun it s₂ => TurnsZ _ _ _ _ _ _ _ _ _ _ it s₂) _ _); refine stop ?_))
local macro_rules | `(tactic| walk_at "mine for") => `(tactic| (k_here; (rename Fr _ _ _ _ => lF'); (with_unfolding_all refine' For_z 0 lF' (Nat.zero_le _) ?_ ?hs9 ?hE9; (case hs9 => (intro _; rfl)); (case hE9 => first | assumption | passes_own); k_whole)))
local macro_rules | `(tactic| walk_at "exec For Name Call cons nil") => `(tactic| walk_at "mine for")
local macro_rules | `(tactic| walk_at "exec For Name Name cons nil") => `(tactic| walk_at "mine for")
local macro_rules | `(tactic| walk_at "exec For Tuple Call cons nil") => `(tactic| walk_at "mine for")
local macro_rules | `(tactic| walk_at "LoopPost") => `(tactic| (dsimp only [LoopPost]; refine stop ?_))
local macro_rules | `(tactic| walk_at "mine all") => `(tactic| first | assumption | exact List.forall_mem_nil _ | (refine' List.forall_mem_cons.mpr ⟨?a, ?b⟩; (case a => k_ne); (case b => walk_at "mine all")))
local macro_rules | `(tactic| walk_at "mine upd") => `(tactic| first | (refine' Upd.head ?a; (case a => walk_at "mine all")) | (refine' Upd.tail ?a ?b; (case a => k_ne); (case b => walk_at "mine upd")))
local macro_rules | `(tactic| walk_at "mine size") => `(tactic| first | assumption | ((try simp only [Array.size_push, List.size_toArray]); rw [sizeLine_eq]; (try simp only [List.length_cons, List.length_nil]); lia))
local macro_rules | `(tactic| walk_at "call builtin:list.append") => `(tactic| (k_here; (with_reducible show wpAny _ _ (call (Value.builtin _) [Value.ref _, _]) _ _ _); k_dflt (refine' append_K ?k1 ?k2 ?k3 ?_ ?z; (case k1 => k_asm); (case k2 => k_asm); (case k3 => walk_at "mine upd"); (case z => walk_at "mine size"); k_whole); intro h' F' N'; (try k_sweep)))
local macro_rules | `(tactic| walk_at "mine names") => `(tactic| (refine And.intro ?n1 ?n2; (case n1 => (repeat' (first | exact List.forall_mem_nil _ | (refine List.forall_mem_cons.mpr ⟨?_, ?_⟩) | with_unfolding_all exact rfl))); (case n2 => (intro z _ hz; (try dsimp only [kstB]); (repeat ((first | refine (nm_cons hz (by first | decide | decide +kernel | rfl)).trans ?_ | refine (nm_sub hz (by first | decide | decide +kernel | rfl)).trans ?_); (try dsimp only [kstB]))); first | done | exact rfl | exact nm_end hz | with_unfolding_all exact nm_end hz))))
local macro_rules | `(tactic| walk_at "mine adr") => `(tactic| first | exact List.forall_mem_nil _ | (refine List.forall_mem_cons.mpr ⟨?a, ?b⟩; (case a => (refine ltN ?_; (try dsimp only); lia)); (case b => walk_at "mine adr")))
local macro_rules | `(tactic| walk_at "mine below") => `(tactic| first | with_reducible assumption | exact allLt_of (by with_reducible assumption) | (rename _ ∧ _ => hAnd9; obtain ⟨_, hAnd8⟩ := hAnd9; walk_at "mine below"))
local macro_rules | `(tactic| walk_at "mine apart") => `(tactic| first | exact List.forall_mem_nil _ | (refine List.forall_mem_cons.mpr ⟨?a, ?b⟩; (case a => (refine apart ?c ?d; (case c => walk_at "mine adr"); (case d => walk_at "mine below"))); (case b => walk_at "mine apart")))
local macro_rules | `(tactic| walk_at "exec For Name Tuple cons nil") => `(tactic| walk_at "mine for")
local macro_rules | `(tactic| walk_at "mine arr") => `(tactic| (k_here; (with_reducible show wpAny _ _ (subscriptTail _ _ (Value.ref _) (Value.int _ _)) _ _ _); (with_unfolding_all refine' item_arr ?k0 ?k1 ?k2 ?k3 ?k4 ?_; (case k0 => k_asm); (case k1 => walk_at "mine mem"); (case k4 => with_reducible assumption); (case k2 => first | with_reducible assumption | exact Int.natCast_nonneg _ | lia); (case k3 => first | with_reducible assumption | lia); k_whole); (try dsimp only)))
local macro_rules | `(tactic| walk_at "subscriptTail Name Name ref int") => `(tactic| walk_at "mine arr")
local macro_rules | `(tactic| walk_at "subscriptTail Name BinOp ref int") => `(tactic| walk_at "mine arr")

theorem tri_call {w : World} {mean : ExcName → Option Value} {mg mb : Str → Option Value} {dp un : Nat} {fr : Option (List Env)} {gd : Option (List Code)} {s : Shared} {Q E : Value → Shared → Prop}
   (X : (hd.heap_39 w.params).In s.heap) (T : Top hd.view_39 (looseW hd.view_39 []) mean mg mb s.heap) (hdp : dp < recursionLimit)
   (hret : ∀ a vs n objs h' tk, Keeps s.heap h' → Left s.heap h' objs → (a, listOf vs n) ∈ objs → All2 (TriIn objs) vs.toList tris → Q (.ref a) { s with heap := h', toks := tk }) :
   wpAny (model PySem.Challenge.rw_pe0059_01.row.prog w) (Ar dp un fr gd) (call (.ref 84) []) Q E s := by
  k_dflt (refine' call_frz (binds := []) X T ?k3 ?k4 hdp ?k6 ?k7 ?_ ?c1 ?c2 ?c3 ?c4; (case k3 => k_is); (case k4 => k_is); (case k6 => exact BindsTo.of_eq rfl); (case k7 => exact locs rfl); (case c1 => decide); (case c2 => exact rfl); (case c3 => exact rfl); (case c4 => exact rfl); k_whole; intro L' h' F' N'; (try dsimp only); (try k_fold))
  k_steps
  unfold Stop
  dsimp only
  rename IsRange _ _ _ _ _ _ _ _ => hR
  rename News _ _ _ _ => hN
  rename Fr _ _ _ _ => hF
  with_unfolding_all refine turns_range_z 0 (σ := Array Value × Nat × List (Int × Int × Int)) 4 (fun c => [(_, listOf c.1 c.2.1)]) (fun _ => []) (fun S c => All2 (TriIn S) c.1.toList c.2.2) [Str.ofString "j", Str.ofString "i", Str.ofString "low", Str.ofString "high"] (fun i c => c.2.2 = triRows i) (#[], 0, []) [] (fun _ h => nomatch h) rfl hR rfl rfl (fun _ _ => rfl) hF hN ?_ (fun _ => rfl) .nil (fun _ h => nomatch h) rfl ?_ ?_
  · intro p hp
    rw [List.mem_singleton.mp hp]
    intro hq
    have hq' := List.mem_singleton.mp hq
    rename (_ : Nat) < _ => hlt'
    exact Nat.ne_of_lt hlt' hq'
  · intro j t c S R u h tk hlt _ hSR hT0 hRa hfa hP F N
    obtain ⟨vs, n, xs⟩ := c
    dsimp only [List.map] at *
    subst hP
    change Fr s.heap L' h _ at F
    change News s.heap L' h (_ :: R) at N
    clear hR hF hN
    have hC := fun p hp e => hRa p hp (List.mem_singleton.mpr e)
    have hS := hT0 _ (List.Mem.head _)
    refine turn_abs fun QX hQX => ?_
    refine wpAny_assign_Name ?_
    obtain ⟨t0, t1, hx0, hx1⟩ := starts_in hS hlt
    have hrj := range_j hlt
    have hrl := triRows_len hlt
    k_steps
    unfold Stop
    dsimp only
    rename IsRange _ _ _ _ _ _ _ _ => hR
    rename News _ _ _ _ => hN
    rename Fr _ _ _ _ => hF
    with_unfolding_all refine turns_range_z 0 (σ := Array Value × Nat × List (Int × Int × Int)) (4 - j) (fun c => [(_, listOf c.1 c.2.1)]) (fun _ => []) (fun S c => All2 (TriIn S) c.1.toList c.2.2) [Str.ofString "i", Str.ofString "low", Str.ofString "high"] (fun i c => c.2.2 = triRows j ++ triUp j i) (vs, n, triRows j) S hSR rfl hR hrj.1 hrj.2 (fun _ _ => rfl) hF hN hRa (fun _ => rfl) hfa (fun _ h => nomatch h) (by simp [triUp]) ?_ ?_
    · intro i t c S R u h tk hlt2 _ hSR hT0 hRa hfa hP F N
      obtain ⟨vs, n, xs⟩ := c
      dsimp only [List.map] at *
      subst hP
      change Fr s.heap L' h _ at F
      change News s.heap L' h (_ :: R) at N
      clear hR hF hN
      have hC := fun p hp e => hRa p hp (List.mem_singleton.mpr e)
      have hS := hT0 _ hS
      have hsz : vs.size ≤ 100 := by
        have h1 := hfa.length
        have h2 := triUp_len j i
        rw [List.length_append, Array.length_toList] at h1
        omega
      refine turn_abs fun QX hQX => ?_
      refine wpAny_assign_Name ?_
      k_steps
      all_goals (try k_data)
      all_goals (refine hQX _ _ ?_; dsimp only [LoopPost]; rename News _ _ _ _ => hN; rename Fr _ _ _ _ => hF)
      all_goals first
        | (with_unfolding_all refine LoopEnd.intro (_, _, _) [_, _] hF hN mem_two ?_ (tri_two (j := j) (by omega) hfa (by walk_at "mine mem") (by walk_at "mine mem")) rfl ?_; (walk_at "mine apart"); (walk_at "mine names"))
        | (with_unfolding_all refine LoopEnd.intro (_, _, _) [_] hF hN mem_one ?_ (tri_one (j := j) (by omega) hfa (by walk_at "mine mem")) rfl ?_; (walk_at "mine apart"); (walk_at "mine names"))
    · intro c ex u h tk _ hex hfa hP F N
      obtain ⟨vs, n, xs⟩ := c
      dsimp only [List.map] at *
      subst hP
      change Fr s.heap L' h _ at F
      change News s.heap L' h (_ :: (ex ++ R)) at N
      clear hR hF hN
      k_steps
      refine hQX _ _ ?_
      dsimp only [LoopPost]
      rename News _ _ _ _ => hN
      rename Fr _ _ _ _ => hF
      with_unfolding_all refine LoopEnd.intro (vs, n, triRows j ++ triUp j (4 - j)) ex hF hN (fun _ h => h) hex hfa rfl ?_
      walk_at "mine names"
  · intro c ex u h tk _ hex hfa hP F N
    obtain ⟨vs, n, xs⟩ := c
    dsimp only [List.map] at *
    subst hP
    change Fr s.heap L' h _ at F
    change News s.heap L' h (_ :: (ex ++ _)) at N
    rw [triRows_all] at hfa
    clear hR hF hN
    k_steps
    dsimp only [qk]
    rename News _ _ _ _ => hN
    rename Fr _ _ _ _ => hF
    exact hret _ _ _ _ _ _ hF.keep (left_of_news hN) (List.Mem.head _) (hfa.mono fun _ _ => tri_mono fun p hp => List.mem_cons_of_mem _ (by simpa using Or.inl hp))
/-- a spot: its place and its three parts -/
structure Spot where
  place : Int
  r : Int
  g : Int
  b : Int
noncomputable def wayOf (ring place corner : Int) : Int := if (corner - place).fmod ring < (place - corner).fmod ring then (corner - place).fmod ring else (place - corner).fmod ring
noncomputable def compOf (side place corner : Int) : Int :=
  let x := 2 * (side - wayOf (3 * side) place corner)
  let y := if 0 < x then x else 0
  if y < side then y else side
noncomputable def spN (side cell : Int) : Int := cell.fmod (164 * (3 * side))
noncomputable def spPlace (side cell : Int) : Int := (spN side cell).fmod (3 * side)
noncomputable def spUnit (side cell : Int) : Int := 1 + ((spN side cell).fdiv (3 * side)).fmod 4
noncomputable def spWhite (side cell : Int) : Int := (spN side cell).fdiv (4 * (3 * side))
noncomputable def spPart (side cell corner : Int) : Int := spWhite side cell + spUnit side cell * compOf side (spPlace side cell) corner
noncomputable def spotOf (side cell : Int) : Spot := ⟨spPlace side cell, spPart side cell 0, spPart side cell side, spPart side cell (2 * side)⟩
theorem ints_snoc {vs : Array Value} {ns : List Int} {n : Int} {t : Tok} (h : IntsAre vs.toList ns) : IntsAre (vs.push (.int n t)).toList (ns ++ [n]) := by
  rw [Array.toList_push]
  generalize vs.toList = l at h
  induction h with
  | nil => exact .cons _ _ .nil
  | cons m u _ ih => exact .cons m u ih
noncomputable def SpotIn (objs : List (Addr × Obj)) (v : Value) (x : Spot) : Prop :=
  ∃ a p t n t1 t2 t3, v = .ref a ∧ (a, tupOf [.int x.place t, .ref p] 0) ∈ objs ∧ (p, listOf #[.int x.r t1, .int x.g t2, .int x.b t3] n) ∈ objs
theorem spot_mono {T T' : List (Addr × Obj)} (h : ∀ p ∈ T, p ∈ T') {v : Value} {x : Spot} : SpotIn T v x → SpotIn T' v x := fun ⟨a, p, t, n, t1, t2, t3, e, h1, h2⟩ => ⟨a, p, t, n, t1, t2, t3, e, h _ h1, h _ h2⟩
theorem news_swap {h₀ h : Heap} {L : Addr} {a b : Addr × Obj} {r : List (Addr × Obj)} (N : News h₀ L h (a :: b :: r)) : News h₀ L h ([b] ++ (a :: r)) := fun p hp => N p (by
  simp only [List.mem_append, List.mem_cons, List.not_mem_nil, or_false] at *
  rcases hp with h | h | h <;> simp [h])
theorem isTuple_mem {h₀ h : Heap} {L l : Addr} {its : Array Value} {n : Nat} {news : List (Addr × Obj)} (N : News h₀ L h news) (hm : (l, ({ cls := .type "tuple", data := .seq its n } : Obj)) ∈ news) : h.IsTuple l its := ⟨_, (N _ hm).1, rfl, n, rfl⟩
theorem part_step {arr : Array Value} {l : List Int} {f : Int → Int} {i : Nat} {co : Int} {t : Tok} (h : IntsAre arr.toList ((l.take i).map f)) (hco : l[i]? = some co) : IntsAre (arr.push (.int (f co) t)).toList ((l.take (i + 1)).map f) := by
  rw [List.take_add_one, hco, List.map_append]
  exact ints_snoc h
theorem three_ints {arr : Array Value} {a b c : Int} (h : IntsAre arr.toList [a, b, c]) : ∃ t1 t2 t3, arr = #[.int a t1, .int b t2, .int c t3] := by
  obtain ⟨l⟩ := arr
  cases h with
  | cons _ t1 h =>
    cases h with
    | cons _ t2 h =>
      cases h with
      | cons _ t3 h =>
        cases h
        exact ⟨t1, t2, t3, rfl⟩
theorem news_in {h₀ h : Heap} {L : Addr} {a c d : Addr × Obj} {ex r : List (Addr × Obj)} (N : News h₀ L h (a :: (ex ++ (d :: c :: r)))) : News h₀ L h (c :: a :: r) := fun p hp => N p (by
  simp only [List.mem_append, List.mem_cons] at *
  rcases hp with h | h | h <;> simp [h])
theorem mem_spot {c e a : Addr × Obj} {R : List (Addr × Obj)} : ∀ p ∈ [c] ++ ([e, a] ++ R), p ∈ e :: c :: a :: R := by
  intro p hp
  simp only [List.mem_append, List.mem_cons, List.not_mem_nil, or_false] at *
  rcases hp with h | (h | h) | h <;> simp [h]
theorem spot_step {S add : List (Addr × Obj)} {vs : Array Value} {xs : List Spot} {D P : Addr} {x : Spot} {t t1 t2 t3 : Tok} {n : Nat} (h : All2 (SpotIn S) vs.toList xs)
    (m : (D, tupOf [.int x.place t, .ref P] 0) ∈ add) (m2 : (P, listOf #[.int x.r t1, .int x.g t2, .int x.b t3] n) ∈ add) : All2 (SpotIn (add ++ S)) (vs.push (.ref D)).toList (xs ++ [x]) := by
  rw [Array.toList_push]
  exact (h.mono fun _ _ => spot_mono fun p hp => List.mem_append.mpr (.inr hp)).snoc ⟨D, P, t, n, t1, t2, t3, rfl, List.mem_append.mpr (.inl m), List.mem_append.mpr (.inl m2)⟩

theorem spots_call {w : World} {mean : ExcName → Option Value} {mg mb : Str → Option Value} {dp un : Nat} {fr : Option (List Env)} {gd : Option (List Code)} {s : Shared} {Q E : Value → Shared → Prop}
   (X : (hd.heap_39 w.params).In s.heap) (T : Top hd.view_39 (looseW hd.view_39 []) mean mg mb s.heap) (hdp : dp < recursionLimit)
   {ca : Addr} {cvs : List Value} {ns : List Int} {side : Int} {ts : Tok} (hl : s.heap.IsList ca cvs.toArray) (hi : IntsAre cvs ns) (hlen : ns.length ≤ 100) (hs1 : 1 ≤ side) (hs2 : side ≤ 21)
   (hret : ∀ a vs n objs h' tk, Keeps s.heap h' → Left s.heap h' objs → (a, listOf vs n) ∈ objs → All2 (SpotIn objs) vs.toList (ns.map (spotOf side)) → Q (.ref a) { s with heap := h', toks := tk }) :
   wpAny (model PySem.Challenge.rw_pe0059_01.row.prog w) (Ar dp un fr gd) (call (.ref 77) [.ref ca, .int side ts]) Q E s := by
  k_dflt (refine' call_frz (binds := [(Str.ofString "cells", .ref ca), (Str.ofString "side", .int side ts)]) X T ?k3 ?k4 hdp ?k6 ?k7 ?_ ?c1 ?c2 ?c3 ?c4; (case k3 => k_is); (case k4 => k_is); (case k6 => exact BindsTo.of_eq rfl); (case k7 => exact locs rfl); (case c1 => decide); (case c2 => exact rfl); (case c3 => exact rfl); (case c4 => exact rfl); k_whole; intro L' h' F' N'; (try dsimp only); (try k_fold))
  obtain ⟨lo, hlo, hlc⟩ := id hl
  have hcaL : ca ≠ L' := Nat.ne_of_lt (Nat.lt_of_lt_of_le (Heap.lt_size hlo) F'.above)
  clear hlo hlc
  k_steps
  unfold Stop
  (try dsimp only)
  rename News _ _ _ _ => hN
  rename Fr _ _ _ _ => hF
  have hl1 := hl.at fun o e => hF.keep _ o e
  have hclt : ∀ p ∈ ([] : List (Addr × Obj)), True := fun _ _ => trivial
  with_unfolding_all refine turns_list_z 0 (σ := Array Value × Nat × List Spot) (fun c => [(_, listOf c.1 c.2.1)]) (fun _ => []) (fun S c => All2 (SpotIn S) c.1.toList c.2.2) [Str.ofString "cell", Str.ofString "n", Str.ofString "place", Str.ofString "unit", Str.ofString "white", Str.ofString "parts", Str.ofString "corner", Str.ofString "way"] (fun i c => c.2.2 = (ns.take i).map (spotOf side)) (#[], 0, []) [] (fun _ h => nomatch h) rfl hl1 hcaL ?_ hF hN (fun _ h => nomatch h) (fun _ => rfl) .nil (fun _ h => nomatch h) rfl ?_ ?_
  · intro hq
    have hq' := List.mem_singleton.mp hq
    have h9 := (hN _ (List.Mem.head _)).2.2
    obtain ⟨lo, hlo, _⟩ := id hl
    have h8 : s.heap.get? ca = none := by rw [hq']; exact h9
    rw [hlo] at h8
    cases h8
  · intro i v c S R u h tk hv _ hSR hT0 hRa hfa hP F N
    have hil : i < ns.length := by
      rw [← hi.length]; exact (List.getElem?_eq_some_iff.mp hv).1
    obtain ⟨tv, hx⟩ := hi.get i (ns[i]'hil) (List.getElem?_eq_getElem hil)
    have ev : v = .int (ns[i]'hil) tv := by rw [hx] at hv; exact (Option.some.inj hv).symm
    subst ev
    have hstep : (ns.take (i + 1)).map (spotOf side) = (ns.take i).map (spotOf side) ++ [spotOf side (ns[i]'hil)] := by
      rw [List.take_add_one, List.getElem?_eq_getElem hil, List.map_append]; rfl
    generalize ns[i]'hil = cell at *
    obtain ⟨vs, n, xs⟩ := c
    dsimp only [List.map] at *
    subst hP
    change Fr s.heap L' h _ at F
    change News s.heap L' h (_ :: R) at N
    have hC := fun p hp e => hRa p hp (List.mem_singleton.mpr e)
    have hsz : vs.size ≤ 100 := by
      have h1 := hfa.length
      rw [List.length_map, List.length_take, Array.length_toList] at h1
      lia
    clear hF hN hl1 hv hx hclt
    refine turn_abs fun QX hQX => ?_
    refine wpAny_assign_Name ?_
    k_steps
    unfold Stop
    (try dsimp only)
    rename News _ _ _ _ => hN
    rename Fr _ _ _ _ => hF
    have N2 := news_swap hN
    have hD := isTuple_mem hN (List.Mem.head _)
    with_unfolding_all refine turns_tuple_z 0 (σ := Array Value × Nat) (fun c => [(_, listOf c.1 c.2)]) (fun _ => []) (fun _ _ => True) [Str.ofString "corner", Str.ofString "way"] (fun i c => IntsAre c.1.toList (([0, side, 2 * side].take i).map (spPart side cell))) (#[], 0) [] (fun _ h => nomatch h) rfl hD (fun _ _ => rfl) ?_ ?_ hF N2 ?_ (fun _ => rfl) trivial (fun _ h => nomatch h) .nil ?_ ?_
    · exact (hN _ (List.Mem.head _)).2.1
    · intro hq
      have hq' := List.mem_singleton.mp hq
      refine absurd hq' (neN ?_)
      (try dsimp only)
      lia
    · refine List.forall_mem_cons.mpr ⟨?_, List.forall_mem_cons.mpr ⟨?_, fun p hp hq => absurd (List.mem_singleton.mp hq) (Nat.ne_of_lt (allLt_mem (by walk_at "mine below") p hp))⟩⟩
      · intro hq
        refine absurd (List.mem_singleton.mp hq) (neN ?_)
        (try dsimp only)
        lia
      · intro hq
        refine absurd (List.mem_singleton.mp hq) (neN ?_)
        (try dsimp only)
        lia
    · intro i v c S2 R2 u h tk hv _ _ hT02 hRa2 _ hok F N
      obtain ⟨arr, n2⟩ := c
      dsimp only [List.map] at *
      have hco : ∃ co tc, v = Value.int co tc ∧ ([0, side, 2 * side] : List Int)[i]? = some co := by
        rcases i with _ | _ | _ | i
        · exact ⟨_, _, (Option.some.inj hv).symm, rfl⟩
        · exact ⟨_, _, (Option.some.inj hv).symm, rfl⟩
        · exact ⟨_, _, (Option.some.inj hv).symm, rfl⟩
        · cases hv
      obtain ⟨co, tc, rfl, hco⟩ := hco
      change Fr s.heap L' h _ at F
      change News s.heap L' h (_ :: R2) at N
      have hC2 := fun p hp e => hRa2 p hp (List.mem_singleton.mpr e)
      have hsz2 : arr.size ≤ 100 := by
        have h1 := IntsAre.length hok
        rw [List.length_map, List.length_take, Array.length_toList] at h1
        simp only [List.length_cons, List.length_nil] at h1
        lia
      clear hF hN N2 hv hC
      refine turn_abs fun QX hQX => ?_
      refine wpAny_assign_Name ?_
      k_steps
      refine hQX _ _ ?_
      dsimp only [LoopPost]
      rename News _ _ _ _ => hN
      rename Fr _ _ _ _ => hF
      with_unfolding_all refine LoopEnd.intro (_, _) [] hF hN (fun _ h => h) (List.forall_mem_nil _) trivial (part_step hok hco) ?_
      walk_at "mine names"
    · intro c ex u h tk _ hex _ hok F N
      obtain ⟨arr, n2⟩ := c
      dsimp only [List.map] at *
      change Fr s.heap L' h _ at F
      change News s.heap L' h (_ :: (ex ++ _)) at N
      have N3 := news_in N
      obtain ⟨t1, t2, t3, harr⟩ := three_ints hok
      subst harr
      clear hF hN N2 N
      k_steps
      refine hQX _ _ ?_
      dsimp only [LoopPost]
      rename News _ _ _ _ => hN
      rename Fr _ _ _ _ => hF
      with_unfolding_all refine LoopEnd.intro (_, _, _) [_, _] hF hN mem_spot ?_ (spot_step hfa (List.Mem.head _) (List.mem_cons_of_mem _ (List.Mem.head _))) hstep.symm ?_
      · walk_at "mine apart"
      · walk_at "mine names"
  · intro c ex u h tk _ hex hfa hP F N
    obtain ⟨vs, n, xs⟩ := c
    dsimp only [List.map] at *
    subst hP
    change Fr s.heap L' h _ at F
    change News s.heap L' h (_ :: (ex ++ _)) at N
    rw [hi.length, List.take_length] at hfa
    clear hF hN hl1 hclt
    k_steps
    dsimp only [qk]
    rename News _ _ _ _ => hN
    rename Fr _ _ _ _ => hF
    exact hret _ _ _ _ _ _ hF.keep (left_of_news hN) (List.Mem.head _) (hfa.mono fun _ _ => spot_mono fun p hp => List.mem_cons_of_mem _ hp)
/-- the law's own def, its body and scope, out of the row's program -/
noncomputable def lawStmt : Stmt := PySem.Challenge.pw_pe0059_01.main.body.getD 15 (PySem.Stmt.Pass ⟨0, 0, 0, 0⟩)
noncomputable def bodyOf : Stmt → List Stmt
  | .FunctionDef _ _ b _ _ _ _ _ _ _ => b
  | _ => []
noncomputable def scopeOf : Stmt → Scope
  | .FunctionDef _ _ _ _ _ _ sc _ _ _ => sc
  | _ => PySem.Challenge.pw_pe0059_01.main.scope
noncomputable def spM (x : Spot) : Int := max x.r (max x.g x.b)
noncomputable def spm (x : Spot) : Int := min x.r (min x.g x.b)
noncomputable def hueF (x : Spot) : UInt64 := hueOf (iq x.r 128) (iq x.g 128) (iq x.b 128) (iq (spM x) 128) (iq (spm x) 128)
/-- what the floats of one spot must keep -/
structure GoodSpot (side : Int) (x : Spot) : Prop where
  m0 : 0 ≤ spm x
  M1 : spM x ≤ 128
  e1 : fmax3 (iq x.r 128) (iq x.g 128) (iq x.b 128) = iq (spM x) 128
  e2 : fmin3 (iq x.r 128) (iq x.g 128) (iq x.b 128) = iq (spm x) 128
  h1 : (Float64.cmp (iq (spm x) 128) (iq (spM x) 128) == some .eq) = false
  h2 : ¬ Float64.isZero (Float64.sub (iq (spM x) 128) (iq (spm x) 128)) = true
  h3 : ¬ Float64.isZero (iq (spM x) 128) = true
  h3l : ¬ Float64.isZero (Float64.add (iq (spM x) 128) (iq (spm x) 128)) = true
  h4 : ¬ Float64.isZero (Float64.sub (Float64.sub 4611686018427387904 (iq (spM x) 128)) (iq (spm x) 128)) = true
  h5 : (Float64.cmp (iq (spM x) 128) (iq (spM x) 128) != some .eq) = false
  h6 : Float64.isFinite (Float64.mul (Float64.ofInt (1048576 * spM x)) (Float64.div (Float64.sub (iq (spM x) 128) (iq (spm x) 128)) (iq (spM x) 128))) = true
  h7 : toInt Float64.nearestOf (Float64.mul (Float64.ofInt (1048576 * spM x)) (Float64.div (Float64.sub (iq (spM x) 128) (iq (spm x) 128)) (iq (spM x) 128))) = 1048576 * (spM x - spm x)
  h5l : (Float64.cmp (Float64.div (Float64.add (iq (spM x) 128) (iq (spm x) 128)) 4611686018427387904) (iq (spM x + spm x) 256) != some .eq) = false
  h6l : Float64.isFinite (Float64.mul (Float64.ofInt (1048576 * (if 256 - spM x - spm x < spM x + spm x then 256 - spM x - spm x else spM x + spm x))) (satOf (iq (spM x) 128) (iq (spm x) 128))) = true
  h7l : toInt Float64.nearestOf (Float64.mul (Float64.ofInt (1048576 * (if 256 - spM x - spm x < spM x + spm x then 256 - spM x - spm x else spM x + spm x))) (satOf (iq (spM x) 128) (iq (spm x) 128))) = 1048576 * (spM x - spm x)
  h8 : Float64.isFinite (Float64.mul (Float64.ofInt (1048576 * 3 * side)) (hueF x)) = true
  h9 : toInt Float64.nearestOf (Float64.mul (Float64.ofInt (1048576 * 3 * side)) (hueF x)) = 1048576 * x.place
theorem hue_spot {w : World} {mean : ExcName → Option Value} {mg mb : Str → Option Value} {dp un : Nat} {fr : Option (List Env)} {gd : Option (List Code)} {s : Shared} {Q E : Value → Shared → Prop}
   (X : (hd.heap_39 w.params).In s.heap) (T : Top hd.view_39 (looseW hd.view_39 []) mean mg mb s.heap) (hdp : dp + 1 < recursionLimit)
   {pa : Addr} {side : Int} {x : Spot} {t u v : Tok} {light : Bool} (G : GoodSpot side x) (hl : s.heap.IsList pa #[.int x.r t, .int x.g u, .int x.b v])
   (hret : ∀ h' tk t1, Keeps s.heap h' → Q (.float (hueF x) t1) { s with heap := h', toks := tk }) :
   wpAny (model PySem.Challenge.rw_pe0059_01.row.prog w) (Ar dp un fr gd) (call (.ref 91) [.ref pa, .bool light]) Q E s := by
  have hM : x.r ≤ spM x ∧ x.g ≤ spM x ∧ x.b ≤ spM x ∧ (spM x = x.r ∨ spM x = x.g ∨ spM x = x.b) := by unfold spM; omega
  have hm : spm x ≤ x.r ∧ spm x ≤ x.g ∧ spm x ≤ x.b ∧ (spm x = x.r ∨ spm x = x.g ∨ spm x = x.b) := by unfold spm; omega
  cases light with
  | false => exact hue_call_v X T hdp pa x.r x.g x.b (spM x) (spm x) t u v _ _ hl hM hm G.m0 G.M1 G.e1 G.e2 G.h1 G.h2 G.h3 G.h5 G.h6 G.h7 hret
  | true => exact hue_call_l X T hdp pa x.r x.g x.b (spM x) (spm x) t u v _ _ hl hM hm G.m0 G.M1 G.e1 G.e2 G.h1 G.h2 G.h3l G.h4 _ rfl G.h5l G.h6l G.h7l hret
noncomputable def ptOf (x : Spot) : Int × Int := (2 * x.r - x.g - x.b, x.g - x.b)
noncomputable def PtIn (objs : List (Addr × Obj)) (v : Value) (x : Int × Int) : Prop := ∃ a t u, v = .ref a ∧ (a, tupOf [.int x.1 t, .int x.2 u] 0) ∈ objs
theorem pt_mono {T T' : List (Addr × Obj)} (h : ∀ p ∈ T, p ∈ T') {v : Value} {x : Int × Int} : PtIn T v x → PtIn T' v x := fun ⟨a, t, u, e, h1⟩ => ⟨a, t, u, e, h _ h1⟩
theorem pt_step {S add : List (Addr × Obj)} {vs : Array Value} {ys : List (Int × Int)} {D : Addr} {y : Int × Int} {t u : Tok} (h : All2 (PtIn S) vs.toList ys) (m : (D, tupOf [.int y.1 t, .int y.2 u] 0) ∈ add) : All2 (PtIn (add ++ S)) (vs.push (.ref D)).toList (ys ++ [y]) := by
  rw [Array.toList_push]
  exact (h.mono fun _ _ => pt_mono fun p hp => List.mem_append.mpr (.inr hp)).snoc ⟨D, t, u, rfl, List.mem_append.mpr (.inl m)⟩
theorem mem_pt {c1 c2 e : Addr × Obj} {R : List (Addr × Obj)} : ∀ p ∈ [c1, c2] ++ ([e] ++ R), p ∈ e :: c1 :: c2 :: R := by
  intro p hp
  simp only [List.mem_append, List.mem_cons, List.not_mem_nil, or_false] at *
  rcases hp with (h | h) | h | h <;> simp [h]
noncomputable def FloatIs (v : Value) (x : UInt64) : Prop := ∃ t, v = .float x t
theorem flt_step {vs : Array Value} {l l' : List UInt64} {y : UInt64} {t : Tok} (h : All2 FloatIs vs.toList l) (e : l' = l ++ [y]) : All2 FloatIs (vs.push (.float y t)).toList l' := by
  rw [Array.toList_push, e]
  exact h.snoc ⟨t, rfl⟩
theorem gen_led {h₀ h : Heap} {L : Addr} {objs ex T₀ : List (Addr × Obj)} {eP eH eT eS : Addr × Obj} {tv pv sv : List Value} {ys : List (Int × Int)} {xs : List Spot} (N : News h₀ L h (objs ++ (eP :: eH :: (ex ++ T₀))))
    (hT : eT ∈ objs) (ht : All2 (TriIn objs) tv tris) (hp : All2 (PtIn (ex ++ [])) pv ys) (hS : eS ∈ T₀) (hs : All2 (SpotIn T₀) sv xs) :
    ∃ T₁, News h₀ L h T₁ ∧ eT ∈ T₁ ∧ All2 (TriIn T₁) tv tris ∧ eP ∈ T₁ ∧ eH ∈ T₁ ∧ All2 (PtIn T₁) pv ys ∧ eS ∈ T₁ ∧ All2 (SpotIn T₁) sv xs := by
  have s1 : ∀ p ∈ objs, p ∈ objs ++ (eP :: eH :: (ex ++ T₀)) := fun p hp => List.mem_append.mpr (.inl hp)
  have s2 : ∀ p ∈ ex ++ [], p ∈ objs ++ (eP :: eH :: (ex ++ T₀)) := fun p hp => by
    rw [List.append_nil] at hp
    simp [hp]
  have s3 : ∀ p ∈ T₀, p ∈ objs ++ (eP :: eH :: (ex ++ T₀)) := fun p hp => by simp [hp]
  exact ⟨_, N, s1 _ hT, ht.mono fun _ _ => tri_mono s1, by simp, by simp, hp.mono fun _ _ => pt_mono s2, s3 _ hS, hs.mono fun _ _ => spot_mono s3⟩
noncomputable def crossOf (p q : Int × Int) : Int := p.1 * q.2 - p.2 * q.1
noncomputable def sgn3 (a b c : Int) : Int := if 0 < a ∧ 0 < b ∧ 0 < c then 1 else if a < 0 ∧ b < 0 ∧ c < 0 then -1 else 0
noncomputable def triTurn (ys : List (Int × Int)) (x : Int × Int × Int) : Int :=
  let p := ys.getD x.1.toNat (0, 0)
  let q := ys.getD x.2.1.toNat (0, 0)
  let r := ys.getD x.2.2.toNat (0, 0)
  sgn3 (crossOf q r) (crossOf r p) (crossOf p q)
noncomputable def triTurns (ys : List (Int × Int)) (i : Nat) : Int := ((tris.take i).map (triTurn ys)).sum
theorem tris_in : ∀ x ∈ tris, 0 ≤ x.1 ∧ x.1 < 15 ∧ 0 ≤ x.2.1 ∧ x.2.1 < 15 ∧ 0 ≤ x.2.2 ∧ x.2.2 < 15 := by decide
theorem corner {T₁ : List (Addr × Obj)} {pts sv : Array Value} {xs : List Spot} (hp : All2 (PtIn T₁) pts.toList (xs.map ptOf)) (hs : All2 (SpotIn T₁) sv.toList xs) {k : Int} (h0 : 0 ≤ k) (h1 : k < 15) (hl : xs.length = 15) :
    ∃ x ap tp up sp pl tt n t1 t2 t3, x ∈ xs ∧ (xs.map ptOf).getD k.toNat (0, 0) = ptOf x ∧ pts.toList[k.toNat]? = some (.ref ap) ∧ (ap, tupOf [.int (ptOf x).1 tp, .int (ptOf x).2 up] 0) ∈ T₁ ∧ sv.toList[k.toNat]? = some (.ref sp) ∧ (sp, tupOf [.int x.place tt, .ref pl] 0) ∈ T₁ ∧ (pl, listOf #[.int x.r t1, .int x.g t2, .int x.b t3] n) ∈ T₁ := by
  have hk : k.toNat < xs.length := by omega
  have hx : xs[k.toNat]? = some (xs[k.toNat]'hk) := List.getElem?_eq_getElem hk
  have hy : (xs.map ptOf)[k.toNat]? = some (ptOf (xs[k.toNat]'hk)) := by rw [List.getElem?_map, hx]; rfl
  obtain ⟨v1, e1, ap, tp, up, rfl, m1⟩ := hp.get hy
  obtain ⟨v2, e2, sp, pl, tt, n, t1, t2, t3, rfl, m2, m3⟩ := hs.get hx
  exact ⟨xs[k.toNat]'hk, ap, tp, up, sp, pl, tt, n, t1, t2, t3, List.getElem_mem hk, by rw [List.getD_eq_getElem?_getD, hy]; rfl, e1, m1, e2, m2, m3⟩
theorem part_bounds {side : Int} {x : Spot} (G : GoodSpot side x) : 0 ≤ x.r ∧ x.r ≤ 128 ∧ 0 ≤ x.g ∧ x.g ≤ 128 ∧ 0 ≤ x.b ∧ x.b ≤ 128 := by
  have h0 := G.m0
  have h1 := G.M1
  unfold spm at h0
  unfold spM at h1
  omega
theorem cross_w {w : World} {mean : ExcName → Option Value} {mg mb : Str → Option Value} {dp un : Nat} {fr : Option (List Env)} {gd : Option (List Code)} {s : Shared} {Q E : Value → Shared → Prop}
   (X : (hd.heap_39 w.params).In s.heap) (T : Top hd.view_39 (looseW hd.view_39 []) mean mg mb s.heap) (hdp : dp + 1 < recursionLimit)
   {p q : Addr} {a b c d : Int} {t u v x : Tok} (hp : IsTup s.heap p #[.int a t, .int b u]) (hq : IsTup s.heap q #[.int c v, .int d x])
   (ha : -16777216 ≤ a ∧ a ≤ 16777216) (hb : -16777216 ≤ b ∧ b ≤ 16777216) (hc : -16777216 ≤ c ∧ c ≤ 16777216) (hd' : -16777216 ≤ d ∧ d ≤ 16777216)
   (hret : ∀ h' tk (t1 : Tok) (z : Int), Keeps s.heap h' → z = a * d - b * c → Q (.int z t1) { s with heap := h', toks := tk }) :
   wpAny (model PySem.Challenge.rw_pe0059_01.row.prog w) (Ar dp un fr gd) (call (.ref 98) [.ref p, .ref q]) Q E s :=
  cross_call X T hdp hp hq ha hb hc hd' fun h' tk t1 k => hret h' tk t1 _ k rfl
theorem V_surj : ∀ (c q : Nat), q ≤ 2 ^ 53 → ∃ t, Float64.V t = q * 2 ^ c
  | 0, q, h => ⟨q, by have := Float64.V_at (k := 0) (q := q) h (.inr rfl); simpa using this⟩
  | c + 1, q, h => by
    by_cases hq : 2 ^ 52 ≤ q
    · exact ⟨(c + 1) * 2 ^ 52 + q, Float64.V_at h (.inl hq)⟩
    · obtain ⟨t, ht⟩ := V_surj c (2 * q) (by omega)
      exact ⟨t, by rw [ht, Nat.pow_succ, Nat.mul_comm 2 q, Nat.mul_assoc, Nat.mul_comm 2]⟩
theorem not_over {t W D c : Nat} (hinf : t = Float64.infMag ↔ D * ((2 ^ 54 - 1) * 2 ^ 2045) ≤ 2 * W) (hle : t ≤ Float64.infMag) (hD : 0 < D) (hc : c ≤ 1900) (hW : W ≤ D * (2 ^ 53 * 2 ^ c)) : t < Float64.infMag := by
  rcases Nat.lt_or_ge t Float64.infMag with h | h
  · exact h
  · exfalso
    have h1 := hinf.mp (Nat.le_antisymm hle h)
    have h2 : (2 : Nat) ^ c ≤ 2 ^ 1900 := Nat.pow_le_pow_right (by decide) hc
    have h3 : (2 : Nat) ^ 2045 = 2 ^ 1900 * 2 ^ 145 := by rw [← Nat.pow_add]
    have h4 : 0 < (2 : Nat) ^ 1900 := Nat.two_pow_pos _
    rw [h3] at h1
    generalize (2 : Nat) ^ 1900 = Y at *
    generalize (2 : Nat) ^ c = X at *
    have h5 : 2 * (2 ^ 53 * X) < (2 ^ 54 - 1) * (Y * 2 ^ 145) := by omega
    have h6 := Nat.mul_lt_mul_of_pos_left h5 hD
    rw [Nat.mul_left_comm] at h6
    omega
theorem right_near {r : UInt64} {neg : Bool} {W D : Nat} (c : Nat) (h : Float64.Right r neg W D) (hD : 0 < D) (hc : c ≤ 1900) (hW : W ≤ D * (2 ^ 53 * 2 ^ c)) :
    (∃ m e, Float64.decode r = .fin neg m e) ∧ ∃ v : Nat, Float64.val r = Float64.sgn neg v ∧ Float64.dist W (D * v) ≤ D * 2 ^ c := by
  obtain ⟨t, rfl, hle, hinf, hn⟩ := h
  have ht := not_over hinf hle hD hc hW
  obtain ⟨m, e, hd, _⟩ := Float64.decode_pack neg ht
  refine ⟨⟨m, e, hd⟩, Float64.V t, Float64.val_pack neg ht, ?_⟩
  have hpos : 0 < D * 2 ^ c := Nat.mul_pos hD (Nat.two_pow_pos _)
  have hq : W / (D * 2 ^ c) ≤ 2 ^ 53 := Nat.div_le_of_le_mul (by rw [show D * 2 ^ c * 2 ^ 53 = D * (2 ^ 53 * 2 ^ c) by ac_rfl]; exact hW)
  obtain ⟨t', ht'⟩ := V_surj c _ hq
  refine Nat.le_trans (hn ht t').1 ?_
  rw [ht']
  have e1 : D * (W / (D * 2 ^ c) * 2 ^ c) = D * 2 ^ c * (W / (D * 2 ^ c)) := by ac_rfl
  have e2 := Nat.div_add_mod W (D * 2 ^ c)
  have e3 := Nat.mod_lt W hpos
  rw [e1]
  unfold Float64.dist
  omega
theorem right_exact {r : UInt64} {neg : Bool} {W D q : Nat} (c : Nat) (h : Float64.Right r neg W D) (hD : 0 < D) (hc : c ≤ 1900) (hq : q ≤ 2 ^ 53) (hW : W = D * (q * 2 ^ c)) :
    (∃ m e, Float64.decode r = .fin neg m e) ∧ Float64.val r = Float64.sgn neg (q * 2 ^ c) := by
  obtain ⟨t, rfl, hle, hinf, hn⟩ := h
  have ht := not_over hinf hle hD hc (by rw [hW]; exact Nat.mul_le_mul_left _ (Nat.mul_le_mul_right _ hq))
  obtain ⟨m, e, hd, _⟩ := Float64.decode_pack neg ht
  refine ⟨⟨m, e, hd⟩, ?_⟩
  obtain ⟨t', ht'⟩ := V_surj c _ hq
  have h1 := (hn ht t').1
  rw [ht', ← hW] at h1
  have h2 : D * Float64.V t = D * (q * 2 ^ c) := by
    rw [← hW]
    unfold Float64.dist at h1
    omega
  rw [Float64.val_pack neg ht, Nat.eq_of_mul_eq_mul_left hD h2]
/-- a finite float -/
noncomputable def Fl (x : UInt64) : Prop := ∃ a m e, Float64.decode x = .fin a m e
/-- the unit of the errors: 2 ** 1024 of the least float's parts; 1.0 is 2 ** 50 of it -/
noncomputable def EE : Int := 2 ^ 1024
theorem EE_pos : 0 < EE := by unfold EE; exact Int.pow_pos (by decide)
theorem EE_nat : EE = ((2 ^ 1024 : Nat) : Int) := by unfold EE; norm_cast
theorem one_EE : (2 : Int) ^ 1074 = 2 ^ 50 * EE := by unfold EE; rw [← Int.pow_add]
theorem one_EE_nat : ((2 ^ 1074 : Nat) : Int) = 2 ^ 50 * EE := by rw [← one_EE]; norm_cast
theorem sgn_cases (a : Bool) (n : Nat) : (a = false ∧ Float64.sgn a n = n) ∨ (a = true ∧ Float64.sgn a n = -(n : Int)) := by cases a <;> simp [Float64.sgn]
theorem fl_finite {x : UInt64} (h : Fl x) : Float64.isFinite x = true := by
  obtain ⟨a, m, e, h⟩ := h
  unfold Float64.isFinite
  rw [h]
theorem near_int {r : UInt64} {z : Int} (c : Nat) (h : Float64.Right r (decide (z < 0)) z.natAbs 1) (hc : c ≤ 1900) (hz : z.natAbs ≤ 2 ^ 53 * 2 ^ c) : Fl r ∧ -((2 ^ c : Nat) : Int) ≤ Float64.val r - z ∧ Float64.val r - z ≤ ((2 ^ c : Nat) : Int) := by
  obtain ⟨⟨m, e, hd⟩, v, hv, hdist⟩ := right_near c h (by decide) hc (by rw [Nat.one_mul]; exact hz)
  refine ⟨⟨_, m, e, hd⟩, ?_⟩
  rw [Nat.one_mul, Nat.one_mul] at hdist
  generalize (2 : Nat) ^ c = C at *
  unfold Float64.dist at hdist
  rw [hv]
  rcases sgn_cases (decide (z < 0)) v with ⟨h1, h2⟩ | ⟨h1, h2⟩ <;> rw [h2] <;> simp only [decide_eq_true_eq, decide_eq_false_iff_not] at h1 <;> omega
theorem exact_int {r : UInt64} {n : Int} (c : Nat) (h : Float64.Right r (decide (n * ((2 ^ c : Nat) : Int) < 0)) (n * ((2 ^ c : Nat) : Int)).natAbs 1) (hc : c ≤ 1900) (hn : n.natAbs ≤ 2 ^ 53) : Fl r ∧ Float64.val r = n * ((2 ^ c : Nat) : Int) := by
  obtain ⟨⟨m, e, hd⟩, hv⟩ := right_exact (q := n.natAbs) c h (by decide) hc hn (by rw [Nat.one_mul, Int.natAbs_mul, Int.natAbs_natCast])
  refine ⟨⟨_, m, e, hd⟩, ?_⟩
  rw [hv]
  have hp : 0 < (2 : Nat) ^ c := Nat.two_pow_pos _
  have h0 : n * ((2 ^ c : Nat) : Int) < 0 ↔ n < 0 := by
    constructor
    · intro h
      rcases (by omega : n < 0 ∨ 0 ≤ n) with h1 | h1
      · exact h1
      · exact absurd h (Int.not_lt.mpr (Int.mul_nonneg h1 (Int.natCast_nonneg _)))
    · intro h
      exact Int.mul_neg_of_neg_of_pos h (by omega)
  rcases sgn_cases (decide (n * ((2 ^ c : Nat) : Int) < 0)) (n.natAbs * 2 ^ c) with ⟨h1, h2⟩ | ⟨h1, h2⟩ <;> rw [h2] <;> simp only [decide_eq_true_eq, decide_eq_false_iff_not] at h1 <;> rw [h0] at h1 <;> rw [Int.natCast_mul]
  · rw [show ((n.natAbs : Nat) : Int) = n by omega]
  · rw [show ((n.natAbs : Nat) : Int) = -n by omega, Int.neg_mul, Int.neg_neg]
theorem fl_zero (a : Bool) : Fl (Float64.zero a) ∧ Float64.val (Float64.zero a) = 0 := by
  have h0 : 0 < Float64.infMag := by decide
  obtain ⟨m, e, hd, _⟩ := Float64.decode_pack a h0
  refine ⟨⟨a, m, e, hd⟩, (Float64.val_pack a h0).trans ?_⟩
  rw [Float64.V_zero]
  cases a <;> rfl
section
variable {x y : UInt64}
theorem sub_neg : Float64.sub x y = Float64.add x (Float64.neg y) := by with_unfolding_all rfl
theorem add_near (c : Nat) (hc : c ≤ 1900) (hx : Fl x) (hy : Fl y) (h : (Float64.val x + Float64.val y).natAbs ≤ 2 ^ 53 * 2 ^ c) :
    Fl (Float64.add x y) ∧ -((2 ^ c : Nat) : Int) ≤ Float64.val (Float64.add x y) - (Float64.val x + Float64.val y) ∧ Float64.val (Float64.add x y) - (Float64.val x + Float64.val y) ≤ ((2 ^ c : Nat) : Int) ∧ (Float64.val x + Float64.val y = 0 → Float64.val (Float64.add x y) = 0) := by
  obtain ⟨a, m, e, hx⟩ := hx
  obtain ⟨b, k, f, hy⟩ := hy
  have hr := Float64.add_right hx hy
  by_cases h0 : Float64.val x + Float64.val y = 0
  · rw [hr.1 h0, h0]
    have hz := fl_zero (a && b)
    rw [hz.2]
    refine ⟨hz.1, ?_, ?_, fun _ => rfl⟩ <;> omega
  · have := near_int c (hr.2 h0) hc h
    exact ⟨this.1, this.2.1, this.2.2, fun h => absurd h h0⟩
theorem add_exact (c : Nat) (hc : c ≤ 1900) (hx : Fl x) (hy : Fl y) {n : Int} (hn : n.natAbs ≤ 2 ^ 53) (h : Float64.val x + Float64.val y = n * ((2 ^ c : Nat) : Int)) :
    Fl (Float64.add x y) ∧ Float64.val (Float64.add x y) = n * ((2 ^ c : Nat) : Int) := by
  obtain ⟨a, m, e, hx⟩ := hx
  obtain ⟨b, k, f, hy⟩ := hy
  have hr := Float64.add_right hx hy
  by_cases h0 : Float64.val x + Float64.val y = 0
  · rw [hr.1 h0, ← h, h0]
    exact fl_zero (a && b)
  · have h1 := hr.2 h0
    rw [h] at h1
    exact exact_int c h1 hc hn
theorem sub_near (c : Nat) (hc : c ≤ 1900) (hx : Fl x) (hy : Fl y) (h : (Float64.val x - Float64.val y).natAbs ≤ 2 ^ 53 * 2 ^ c) :
    Fl (Float64.sub x y) ∧ -((2 ^ c : Nat) : Int) ≤ Float64.val (Float64.sub x y) - (Float64.val x - Float64.val y) ∧ Float64.val (Float64.sub x y) - (Float64.val x - Float64.val y) ≤ ((2 ^ c : Nat) : Int) ∧ (Float64.val x - Float64.val y = 0 → Float64.val (Float64.sub x y) = 0) := by
  obtain ⟨b, k, f, hy⟩ := hy
  have hv := Float64.neg_val hy
  have := add_near (x := x) (y := Float64.neg y) c hc hx ⟨_, _, _, Float64.neg_decode hy⟩ (by rw [hv]; exact h)
  rw [hv] at this
  rw [sub_neg]
  exact this
theorem sub_exact (c : Nat) (hc : c ≤ 1900) (hx : Fl x) (hy : Fl y) {n : Int} (hn : n.natAbs ≤ 2 ^ 53) (h : Float64.val x - Float64.val y = n * ((2 ^ c : Nat) : Int)) :
    Fl (Float64.sub x y) ∧ Float64.val (Float64.sub x y) = n * ((2 ^ c : Nat) : Int) := by
  obtain ⟨b, k, f, hy⟩ := hy
  have hv := Float64.neg_val hy
  rw [sub_neg]
  exact add_exact (x := x) (y := Float64.neg y) c hc hx ⟨_, _, _, Float64.neg_decode hy⟩ hn (by rw [hv]; exact h)
theorem ofInt_exact {n : Int} (hn : n.natAbs ≤ 2 ^ 53) : Fl (Float64.ofInt n) ∧ Float64.val (Float64.ofInt n) = n * ((2 ^ 1074 : Nat) : Int) := by
  have h := Float64.ofInt_right n
  have e1 : decide (n < 0) = decide (n * ((2 ^ 1074 : Nat) : Int) < 0) := by
    apply decide_eq_decide.mpr
    rw [one_EE_nat]
    have := EE_pos
    generalize EE = e at *
    rw [Int.mul_left_comm]
    constructor
    · intro h; have := Int.mul_neg_of_neg_of_pos h this; omega
    · intro h
      rcases (by omega : n < 0 ∨ 0 ≤ n) with h1 | h1
      · exact h1
      · have := Int.mul_nonneg h1 (Int.le_of_lt this); omega
  rw [e1, show n.natAbs * 2 ^ 1074 = (n * ((2 ^ 1074 : Nat) : Int)).natAbs by rw [Int.natAbs_mul, Int.natAbs_natCast]] at h
  exact exact_int 1074 h (by decide) hn
theorem iq_exact {a d c : Nat} (hd : 0 < d) (ha : a ≤ 2 ^ 53) (hc : c ≤ 1900) (h2 : d * 2 ^ c = 2 ^ 1074) : Fl (iq a d) ∧ Float64.val (iq a d) = (a : Int) * ((2 ^ c : Nat) : Int) := by
  have h1 : iq a d = Float64.ofFrac false a d := by
    unfold iq
    have e1 : decide ((a : Int) < 0) = false := by simp
    have e2 : decide ((d : Int) < 0) = false := by simp
    rw [e1, e2]
    rfl
  have h : Float64.Right (iq a d) false (a * 2 ^ 1074) d := h1 ▸ Float64.ofFrac_right hd rfl hd
  obtain ⟨⟨m, e, hdec⟩, hv⟩ := right_exact (q := a) c h hd hc ha (by rw [← h2]; ac_rfl)
  exact ⟨⟨_, m, e, hdec⟩, by rw [hv]; simp [Float64.sgn]⟩
theorem val_sign {a : Bool} {m : Nat} {e : Int} (h : Float64.decode x = .fin a m e) : (a = false ∧ Float64.val x = (Float64.val x).natAbs) ∨ (a = true ∧ Float64.val x = -((Float64.val x).natAbs : Int)) := by
  rw [Float64.val_natAbs h, Float64.val_eq h]
  exact sgn_cases a _
theorem div_near (hx : Fl x) (hy : Fl y) (h0 : 0 < Float64.val y) (h : (Float64.val x).natAbs ≤ 8 * (Float64.val y).natAbs) :
    Fl (Float64.div x y) ∧ -(Float64.val y * EE) ≤ Float64.val y * Float64.val (Float64.div x y) - Float64.val x * (2 ^ 50 * EE) ∧ Float64.val y * Float64.val (Float64.div x y) - Float64.val x * (2 ^ 50 * EE) ≤ Float64.val y * EE := by
  obtain ⟨a, m, e, hx⟩ := hx
  obtain ⟨b, k, f, hy⟩ := hy
  have sx := val_sign hx
  have sy := val_sign hy
  have hk : k ≠ 0 := by
    intro hk
    rw [Float64.val_eq hy, hk] at h0
    cases b <;> simp [Float64.sgn] at h0
  have hr := Float64.div_right hx hy hk
  have hb : b = false := by rcases sy with h | h; exact h.1; omega
  subst hb
  have ea : (a != false) = a := by cases a <;> rfl
  rw [ea] at hr
  obtain ⟨hd, v, hv, hdist⟩ := right_near 1024 hr (by omega) (by decide) (by
    have e1 : (2 : Nat) ^ 1074 = 2 ^ 50 * 2 ^ 1024 := by rw [← Nat.pow_add]
    rw [e1]
    generalize (2 : Nat) ^ 1024 = C
    generalize (Float64.val x).natAbs = X at *
    generalize (Float64.val y).natAbs = Y at *
    calc X * (2 ^ 50 * C) ≤ 8 * Y * (2 ^ 50 * C) := Nat.mul_le_mul_right _ h
      _ = Y * (2 ^ 53 * C) := by rw [show (2 : Nat) ^ 53 = 8 * 2 ^ 50 by rfl]; ac_rfl)
  obtain ⟨m', e', hd⟩ := hd
  refine ⟨⟨_, m', e', hd⟩, ?_⟩
  have sy : Float64.val y = (Float64.val y).natAbs := by omega
  rw [← one_EE_nat, EE_nat, hv]
  generalize (2 : Nat) ^ 1074 = K at *
  generalize (2 : Nat) ^ 1024 = C at *
  generalize (Float64.val y).natAbs = Y at *
  generalize (Float64.val x).natAbs = X at *
  rw [sy]
  unfold Float64.dist at hdist
  have e1 : ((Y : Int) * (v : Int)) = ((Y * v : Nat) : Int) := (Int.natCast_mul _ _).symm
  have e2 : ((Y : Int) * (C : Int)) = ((Y * C : Nat) : Int) := (Int.natCast_mul _ _).symm
  have e3 : ((X : Int) * (K : Int)) = ((X * K : Nat) : Int) := (Int.natCast_mul _ _).symm
  rcases sx with ⟨ha, sx⟩ | ⟨ha, sx⟩ <;> rw [sx, ha] <;> simp only [Float64.sgn, if_true, if_false, Bool.false_eq_true, Int.mul_neg, Int.neg_mul] <;> rw [e1, e2, e3] <;> omega
theorem div_exact (c : Nat) (hc : c ≤ 1900) (hx : Fl x) (hy : Fl y) (h0 : 0 < Float64.val y) {n : Nat} (hn : n ≤ 2 ^ 53) (_hp : 0 ≤ Float64.val x) (h : (Float64.val x).natAbs * 2 ^ 1074 = (Float64.val y).natAbs * (n * 2 ^ c)) :
    Fl (Float64.div x y) ∧ (Float64.val (Float64.div x y)).natAbs = n * 2 ^ c ∧ (0 < Float64.val x → 0 < Float64.val (Float64.div x y)) := by
  obtain ⟨a, m, e, hx⟩ := hx
  obtain ⟨b, k, f, hy⟩ := hy
  have sx := val_sign hx
  have sy := val_sign hy
  have hk : k ≠ 0 := by
    intro hk
    rw [Float64.val_eq hy, hk] at h0
    cases b <;> simp [Float64.sgn] at h0
  have hr := Float64.div_right hx hy hk
  obtain ⟨hd, hv⟩ := right_exact c hr (by omega) hc hn h
  obtain ⟨m', e', hd⟩ := hd
  refine ⟨⟨_, m', e', hd⟩, by rw [hv, Float64.sgn_natAbs], fun hx0 => ?_⟩
  have ea : a = false := by rcases sx with h | h; exact h.1; omega
  have eb : b = false := by rcases sy with h | h; exact h.1; omega
  rw [hv, ea, eb]
  have : 0 < n * 2 ^ c := by
    rcases Nat.eq_zero_or_pos (n * 2 ^ c) with h1 | h1
    · rw [h1, Nat.mul_zero] at h
      have := Nat.mul_pos (show 0 < (Float64.val x).natAbs by omega) (Nat.two_pow_pos 1074)
      omega
    · exact h1
  show (0 : Int) < ((n * 2 ^ c : Nat) : Int)
  omega
theorem mulInt_near {n : Int} (hn : n.natAbs ≤ 2 ^ 53) (hy : Fl y) (h : (n * Float64.val y).natAbs ≤ 2 ^ 53 * 2 ^ 1048) :
    Fl (Float64.mul (Float64.ofInt n) y) ∧ -(2 ^ 24 * EE) ≤ Float64.val (Float64.mul (Float64.ofInt n) y) - n * Float64.val y ∧ Float64.val (Float64.mul (Float64.ofInt n) y) - n * Float64.val y ≤ 2 ^ 24 * EE := by
  obtain ⟨hx, hxv⟩ := ofInt_exact hn
  obtain ⟨a, m, e, hx⟩ := hx
  obtain ⟨b, k, f, hy⟩ := hy
  have sx := val_sign hx
  have sy := val_sign hy
  have hr := Float64.mul_right hx hy
  have hX : (Float64.val (Float64.ofInt n)).natAbs = n.natAbs * 2 ^ 1074 := by rw [hxv, Int.natAbs_mul, Int.natAbs_natCast]
  have hK : 0 < (2 : Nat) ^ 1074 := Nat.two_pow_pos _
  rw [Int.natAbs_mul] at h
  obtain ⟨hd, v, hv, hdist⟩ := right_near 1048 hr hK (by decide) (by
    rw [hX, show n.natAbs * 2 ^ 1074 * (Float64.val y).natAbs = 2 ^ 1074 * (n.natAbs * (Float64.val y).natAbs) by ac_rfl]
    exact Nat.mul_le_mul_left _ h)
  obtain ⟨m', e', hd⟩ := hd
  refine ⟨⟨_, m', e', hd⟩, ?_⟩
  have e24 : (2 : Int) ^ 24 * EE = ((2 ^ 1048 : Nat) : Int) := by
    rw [EE_nat, show (2 : Nat) ^ 1048 = 2 ^ 24 * 2 ^ 1024 by rw [← Nat.pow_add]]
    norm_cast
  rw [e24]
  have hdv : Float64.dist (n.natAbs * (Float64.val y).natAbs) v ≤ 2 ^ 1048 := by
    refine Nat.le_of_mul_le_mul_left (c := 2 ^ 1074) ?_ hK
    rw [← Float64.dist_mul]
    rw [hX, show n.natAbs * 2 ^ 1074 * (Float64.val y).natAbs = 2 ^ 1074 * (n.natAbs * (Float64.val y).natAbs) by ac_rfl] at hdist
    exact hdist
  have hxs : (a = false ∧ n = n.natAbs) ∨ (a = true ∧ n = -(n.natAbs : Int)) := by
    rw [hxv] at sx
    rcases sx with ⟨h1, h2⟩ | ⟨h1, h2⟩
    · left
      refine ⟨h1, ?_⟩
      rcases (by omega : n < 0 ∨ 0 ≤ n) with h3 | h3
      · have := Int.mul_neg_of_neg_of_pos h3 (show (0 : Int) < ((2 ^ 1074 : Nat) : Int) by omega)
        omega
      · omega
    · right
      refine ⟨h1, ?_⟩
      rcases (by omega : 0 < n ∨ n ≤ 0) with h3 | h3
      · have := Int.mul_pos h3 (show (0 : Int) < ((2 ^ 1074 : Nat) : Int) by omega)
        omega
      · omega
  generalize (2 : Nat) ^ 1048 = C at *
  generalize (Float64.val y).natAbs = Y at *
  generalize n.natAbs = X at *
  have e1 : ((X : Int) * (Y : Int)) = ((X * Y : Nat) : Int) := (Int.natCast_mul _ _).symm
  unfold Float64.dist at hdv
  rw [hv]
  rcases hxs with ⟨ha, hxs⟩ | ⟨ha, hxs⟩ <;> rcases sy with ⟨hb, sy⟩ | ⟨hb, sy⟩ <;> rw [hxs, sy, ha, hb] <;> simp only [Float64.sgn, bne_self_eq_false, Bool.bne_true, Bool.bne_false, Bool.not_true, Bool.not_false, Bool.true_bne, Bool.false_bne, if_true, if_false, Bool.false_eq_true, Int.mul_neg, Int.neg_mul, Int.neg_neg] <;> rw [e1] <;> omega
theorem cmp_val (hx : Fl x) (hy : Fl y) : Float64.cmp x y = some (compare (Float64.val x) (Float64.val y)) := by
  obtain ⟨a, m, e, hx⟩ := hx
  obtain ⟨b, k, f, hy⟩ := hy
  exact Float64.cmp_right hx hy
theorem cmp_lt (hx : Fl x) (hy : Fl y) : (Float64.cmp x y == some .lt) = decide (Float64.val x < Float64.val y) := by
  rw [cmp_val hx hy]
  rcases Int.lt_trichotomy (Float64.val x) (Float64.val y) with h | h | h
  · rw [Int.compare_eq_lt.mpr h]; simp [h]
  · rw [h]; simp
  · rw [Int.compare_eq_gt.mpr h]; simp; omega
theorem cmp_eq (hx : Fl x) (hy : Fl y) : (Float64.cmp x y == some .eq) = decide (Float64.val x = Float64.val y) := by
  rw [cmp_val hx hy]
  rcases Int.lt_trichotomy (Float64.val x) (Float64.val y) with h | h | h
  · rw [Int.compare_eq_lt.mpr h]; simp; omega
  · rw [h]; simp
  · rw [Int.compare_eq_gt.mpr h]; simp; omega
theorem isZero_val (hx : Fl x) : Float64.isZero x = decide (Float64.val x = 0) := by
  obtain ⟨a, m, e, hx⟩ := hx
  unfold Float64.isZero
  rw [hx, Float64.val_eq hx]
  cases m with
  | zero => simp [Float64.sgn]
  | succ m =>
    have : 0 < (m + 1) * 2 ^ (e + 1074).toNat := Nat.mul_pos (by omega) (Nat.two_pow_pos _)
    generalize (m + 1) * 2 ^ (e + 1074).toNat = z at *
    have : Float64.sgn a z ≠ 0 := by cases a <;> simp [Float64.sgn] <;> omega
    simp [this]
theorem nat_dist (a b : Int) : Float64.dist a.natAbs b.natAbs ≤ (a - b).natAbs := by unfold Float64.dist; omega
theorem nearest_of {n : Int} (hx : Fl x) (h1 : -(2 ^ 49 * EE) < Float64.val x - n * (2 ^ 50 * EE)) (h2 : Float64.val x - n * (2 ^ 50 * EE) < 2 ^ 49 * EE) : toInt Float64.nearestOf x = n := by
  obtain ⟨a, m, e, hx⟩ := hx
  have he := Float64.decode_ge hx
  have hs := Float64.shift_one m e 1074 (by omega)
  have hb := Float64.shift_pos m 1 e (by decide)
  have sx := val_sign hx
  have hv := Float64.val_natAbs hx
  rw [toInt_fin hx]
  unfold Float64.nearestOf
  show Float64.sgn a (Float64.halfEven (Float64.shift m 1 e).1 (Float64.shift m 1 e).2) = n
  have hnear := Float64.halfEven_nearest (Float64.shift m 1 e).1 (Float64.shift m 1 e).2 hb n.natAbs
  generalize (Float64.shift m 1 e).1 = N at *
  generalize (Float64.shift m 1 e).2 = D at *
  generalize Float64.halfEven N D = q at *
  rw [show (e + ((1074 : Nat) : Int)).toNat = (e + 1074).toNat from rfl, ← hv] at hs
  have hE := EE_pos
  rw [← one_EE_nat] at h1 h2
  have hk : (2 : Int) ^ 49 * EE * 2 = ((2 ^ 1074 : Nat) : Int) := by rw [one_EE_nat]; omega
  generalize (2 : Int) ^ 49 * EE = H at *
  generalize (2 : Nat) ^ 1074 = K at *
  have hK : 0 < K := by omega
  have hd1 : 2 * Float64.dist (Float64.val x).natAbs (n.natAbs * K) < K := by
    have h := nat_dist (Float64.val x) (n * (K : Int))
    rw [Int.natAbs_mul, Int.natAbs_natCast] at h
    have h' : 2 * (Float64.val x - n * (K : Int)).natAbs < K := by clear h; omega
    omega
  have hd2 : n ≠ 0 → (a = false ↔ 0 < n) := fun h0 => by
    rcases (by omega : 1 ≤ n ∨ n ≤ -1) with h | h
    · have h4 := Int.mul_le_mul_of_nonneg_right h (Int.le_of_lt (Int.natCast_pos.mpr hK))
      rw [Int.one_mul] at h4
      have h5 : 0 < Float64.val x := by omega
      rcases sx with ⟨h6, _⟩ | ⟨_, h6⟩
      · exact ⟨fun _ => by omega, fun _ => h6⟩
      · omega
    · have h4 := Int.mul_le_mul_of_nonneg_right h (Int.le_of_lt (Int.natCast_pos.mpr hK))
      rw [Int.neg_mul, Int.one_mul] at h4
      have h5 : Float64.val x < 0 := by omega
      rcases sx with ⟨_, h6⟩ | ⟨h6, _⟩
      · omega
      · exact ⟨fun h7 => (by rw [h6] at h7; cases h7), fun _ => by omega⟩
  have hd : 2 * Float64.dist (Float64.val x).natAbs (n.natAbs * K) < K ∧ (n ≠ 0 → (a = false ↔ 0 < n)) := ⟨hd1, hd2⟩
  clear hd1 hd2 h1 h2
  generalize (Float64.val x).natAbs = X at *
  have h3 : 2 * Float64.dist N (D * n.natAbs) < D := by
    refine Nat.lt_of_mul_lt_mul_right (a := K) ?_
    have e2 : Float64.dist N (D * n.natAbs) * K = D * Float64.dist X (n.natAbs * K) := by
      rw [Nat.mul_comm, ← Float64.dist_mul, ← Float64.dist_mul, Nat.mul_comm K N, hs, Nat.mul_comm X D]
      congr 1
      ac_rfl
    rw [Nat.mul_assoc, e2, Nat.mul_left_comm]
    exact Nat.mul_lt_mul_of_pos_left hd.1 hb
  have hq : q = n.natAbs := by
    rcases Nat.lt_trichotomy q n.natAbs with h | h | h
    · exfalso
      have : D * (q + 1) ≤ D * n.natAbs := Nat.mul_le_mul_left _ h
      rw [Nat.mul_add, Nat.mul_one] at this
      unfold Float64.dist at *
      omega
    · exact h
    · exfalso
      have : D * (n.natAbs + 1) ≤ D * q := Nat.mul_le_mul_left _ h
      rw [Nat.mul_add, Nat.mul_one] at this
      unfold Float64.dist at *
      omega
  rw [hq]
  by_cases h0 : n = 0
  · subst h0; cases a <;> rfl
  · have := hd.2 h0
    rcases sgn_cases a n.natAbs with ⟨ha, hs⟩ | ⟨ha, hs⟩
    · have := this.mp ha
      rw [hs]; omega
    · have : ¬ 0 < n := fun h => by rw [this.mpr h] at ha; cases ha
      rw [hs]; omega
end
noncomputable def mixI (w0 w1 w2 : Int) (x : Int × Int × Int) : Int := w0 * x.1 + w1 * x.2.1 + w2 * x.2.2
noncomputable def mixF (w0 w1 w2 : Int) (x : Int × Int × Int) : UInt64 := iq (if mixI w0 w1 w2 x < 0 then -mixI w0 w1 w2 x else mixI w0 w1 w2 x) 16777216
theorem mul_bd {a b : Int} {A B : Nat} (ha : a.natAbs ≤ A) (hb : b.natAbs ≤ B) : (a * b).natAbs ≤ A * B := by
  rw [Int.natAbs_mul]
  exact Nat.mul_le_mul ha hb
theorem cross_bound {x y : Spot} (hx : 0 ≤ x.r ∧ x.r ≤ 128 ∧ 0 ≤ x.g ∧ x.g ≤ 128 ∧ 0 ≤ x.b ∧ x.b ≤ 128) (hy : 0 ≤ y.r ∧ y.r ≤ 128 ∧ 0 ≤ y.g ∧ y.g ≤ 128 ∧ 0 ≤ y.b ∧ y.b ≤ 128) :
    -65536 ≤ crossOf (ptOf x) (ptOf y) ∧ crossOf (ptOf x) (ptOf y) ≤ 65536 := by
  unfold crossOf ptOf
  dsimp only
  have h1 : ((2 * x.r - x.g - x.b) * (y.g - y.b)).natAbs ≤ 256 * 128 := mul_bd (by lia) (by lia)
  have h2 : ((x.g - x.b) * (2 * y.r - y.g - y.b)).natAbs ≤ 128 * 256 := mul_bd (by lia) (by lia)
  lia
theorem mix_bound {w0 w1 w2 a b c : Int} (h0 : -65536 ≤ w0 ∧ w0 ≤ 65536) (h1 : -65536 ≤ w1 ∧ w1 ≤ 65536) (h2 : -65536 ≤ w2 ∧ w2 ≤ 65536) (ha : 0 ≤ a ∧ a ≤ 128) (hb : 0 ≤ b ∧ b ≤ 128) (hc : 0 ≤ c ∧ c ≤ 128) :
    -25165824 ≤ w0 * a + w1 * b + w2 * c ∧ w0 * a + w1 * b + w2 * c ≤ 25165824 := by
  have k1 : (w0 * a).natAbs ≤ 65536 * 128 := mul_bd (by lia) (by lia)
  have k2 : (w1 * b).natAbs ≤ 65536 * 128 := mul_bd (by lia) (by lia)
  have k3 : (w2 * c).natAbs ≤ 65536 * 128 := mul_bd (by lia) (by lia)
  lia
theorem wedge (p1 p2 q1 q2 r1 r2 : Int) : (q1 * r2 - q2 * r1) * p1 + (r1 * p2 - r2 * p1) * q1 + (p1 * q2 - p2 * q1) * r1 = 0 ∧ (q1 * r2 - q2 * r1) * p2 + (r1 * p2 - r2 * p1) * q2 + (p1 * q2 - p2 * q1) * r2 = 0 := by
  constructor <;> grind
theorem mix_even (x y z : Spot) : mixI (crossOf (ptOf y) (ptOf z)) (crossOf (ptOf z) (ptOf x)) (crossOf (ptOf x) (ptOf y)) (x.r, y.r, z.r) = mixI (crossOf (ptOf y) (ptOf z)) (crossOf (ptOf z) (ptOf x)) (crossOf (ptOf x) (ptOf y)) (x.b, y.b, z.b) ∧
    mixI (crossOf (ptOf y) (ptOf z)) (crossOf (ptOf z) (ptOf x)) (crossOf (ptOf x) (ptOf y)) (x.g, y.g, z.g) = mixI (crossOf (ptOf y) (ptOf z)) (crossOf (ptOf z) (ptOf x)) (crossOf (ptOf x) (ptOf y)) (x.b, y.b, z.b) := by
  have h := wedge (ptOf x).1 (ptOf x).2 (ptOf y).1 (ptOf y).2 (ptOf z).1 (ptOf z).2
  change crossOf (ptOf y) (ptOf z) * (ptOf x).1 + crossOf (ptOf z) (ptOf x) * (ptOf y).1 + crossOf (ptOf x) (ptOf y) * (ptOf z).1 = 0 ∧ crossOf (ptOf y) (ptOf z) * (ptOf x).2 + crossOf (ptOf z) (ptOf x) * (ptOf y).2 + crossOf (ptOf x) (ptOf y) * (ptOf z).2 = 0 at h
  generalize crossOf (ptOf y) (ptOf z) = w0 at *
  generalize crossOf (ptOf z) (ptOf x) = w1 at *
  generalize crossOf (ptOf x) (ptOf y) = w2 at *
  unfold ptOf at h
  unfold mixI
  dsimp only at *
  simp only [Int.mul_sub, Int.mul_left_comm _ 2 _] at h
  lia
theorem two_val : Fl 4611686018427387904 ∧ Float64.val 4611686018427387904 = 2 * ((2 ^ 1074 : Nat) : Int) := by
  have h : Float64.decode 4611686018427387904 = .fin false (2 ^ 52) (-51) := by with_unfolding_all rfl
  refine ⟨⟨_, _, _, h⟩, ?_⟩
  rw [Float64.val_eq h]
  show ((2 ^ 52 * 2 ^ 1023 : Nat) : Int) = _
  rw [show (2 : Nat) ^ 52 * 2 ^ 1023 = 2 * 2 ^ 1074 by rw [← Nat.pow_add]]
  exact Int.natCast_mul _ _
theorem grey_float {n : Int} (h0 : 0 ≤ n) (h1 : n ≤ 1073741824) :
    (Float64.cmp (fmin3 (iq n 16777216) (iq n 16777216) (iq n 16777216)) (fmax3 (iq n 16777216) (iq n 16777216) (iq n 16777216)) == some .eq) = true ∧
    (Float64.cmp (Float64.div (Float64.add (fmax3 (iq n 16777216) (iq n 16777216) (iq n 16777216)) (fmin3 (iq n 16777216) (iq n 16777216) (iq n 16777216))) 4611686018427387904) (iq n 16777216) == some .eq) = true := by
  have hx := iq_exact (a := n.toNat) (d := 16777216) (c := 1050) (by decide) (by lia) (by decide) (by rw [show (16777216 : Nat) = 2 ^ 24 by rfl, ← Nat.pow_add])
  rw [show ((n.toNat : Nat) : Int) = n by lia] at hx
  change Fl (iq n 16777216) ∧ Float64.val (iq n 16777216) = _ at hx
  generalize iq n 16777216 = x at *
  have e1 : fmax3 x x x = x := by simp [fmax3]
  have e2 : fmin3 x x x = x := by simp [fmin3]
  rw [e1, e2]
  obtain ⟨hx, hv⟩ := hx
  have ha := add_exact (n := 2 * n) 1050 (by decide) hx hx (by lia) (by rw [hv, Int.mul_assoc]; lia)
  have hp : (0 : Int) < ((2 ^ 1050 : Nat) : Int) := by exact_mod_cast Nat.two_pow_pos 1050
  have hva : 0 ≤ Float64.val (Float64.add x x) := by rw [ha.2]; exact Int.mul_nonneg (by lia) (by lia)
  have h2 : 0 < Float64.val 4611686018427387904 := by rw [two_val.2, one_EE_nat]; have := EE_pos; lia
  have hd := div_exact (n := n.toNat) 1050 (by decide) ha.1 two_val.1 h2 (by lia) hva (by
    rw [ha.2, two_val.2]
    simp only [Int.natAbs_mul, Int.natAbs_natCast]
    rw [show n.natAbs = n.toNat by lia]
    ac_rfl)
  have hv2 : Float64.val (Float64.div (Float64.add x x) 4611686018427387904) = Float64.val x := by
    rw [hv]
    have e3 : ((n.toNat * 2 ^ 1050 : Nat) : Int) = n * ((2 ^ 1050 : Nat) : Int) := by rw [Int.natCast_mul, show ((n.toNat : Nat) : Int) = n by lia]
    rw [← e3, ← hd.2.1]
    rcases Int.lt_or_le 0 (Float64.val (Float64.add x x)) with h | h
    · have := hd.2.2 h; lia
    · have h4 : Float64.val (Float64.add x x) = 0 := by lia
      have h5 : n = 0 := by
        rw [ha.2] at h4
        rcases Int.mul_eq_zero.mp h4 with h | h <;> lia
      have h6 := hd.2.1
      rw [h5] at h6
      simp at h6
      lia
  refine ⟨?_, ?_⟩
  · rw [cmp_eq hx hx]; simp
  · rw [cmp_eq hd.1 hx, hv2]; simp
theorem same_float {M : Model} {A : Around} {E : Value → Shared → Prop} {s : Shared} {x y : UInt64} {t u : Tok} {Q : Bool → Shared → Prop} (ht : t ≠ 0) (hu : u ≠ 0) (hb : NoneBooked s.heap) (h : ∀ b, Q b s) : wpAny M A (isSame (.float x t) (.float y u)) Q E s := by
  show wpAny M A (isSame.created (x == y && !Float64.isNaN x) t u) Q E s
  unfold isSame.created
  have h0 : (t == 0 || u == 0) = false := by simp [ht, hu]
  refine wpAny_ite ?_
  rw [if_neg (by rw [h0]; exact Bool.false_ne_true)]
  refine wpAny_ite ?_
  split
  · exact wpAny_pure (h _)
  · refine wpAny_ite ?_
    split
    · exact wpAny_pure (h _)
    · refine wpAny_bind (wpAny_sharingNotTold_none hb ?_)
      rw [if_neg Bool.false_ne_true]
      refine wpAny_bind (wpAny_sharingNotTold_none hb ?_)
      rw [if_neg Bool.false_ne_true]
      exact wpAny_bind (wpAny_rule (wpAny_bind (wpAny_askSetting (wpAny_pure (h _)))))
theorem float_eqAt {A : Around} {s : Shared} {x y : UInt64} {t u : Tok} (ht : t ≠ 0) (hu : u ≠ 0) (hb : NoneBooked s.heap) (h : (Float64.cmp x y == some .eq) = true) : SeqAt.EqAt A s (.float x t) (.float y u) true := fun prog w E Q hq => by
  unfold eqBool
  refine wpAny_holding ?_
  refine wpAny_ite_split (fun _ => ?_) (fun _ => ?_)
  · exact wpAny_bind (wpAny_rule (wpAny_pure hq))
  · refine wpAny_bind (same_float ht hu hb fun b => ?_)
    refine wpAny_ite_split (fun _ => wpAny_pure hq) (fun _ => ?_)
    refine wpAny_bind (AutoFloatOps.eq_0 ?_)
    rw [h]
    exact wpAny_truthy_bool hq
theorem ne_floats3 {prog : Program} {w : World} {A : Around} {E : Value → Shared → Prop} {s : Shared} {Q : Value → Shared → Prop} {a b : Addr} {x1 x2 x3 y1 y2 y3 : UInt64} {t1 t2 t3 u1 u2 u3 : Nat}
    (ha : s.heap.IsTuple a #[.float x1 t1, .float x2 t2, .float x3 t3]) (hb : s.heap.IsTuple b #[.float y1 u1, .float y2 u2, .float y3 u3]) (hu : A.units < cLine) (hn : NoneBooked s.heap)
    (k1 : t1 ≠ 0) (k2 : t2 ≠ 0) (k3 : t3 ≠ 0) (l1 : u1 ≠ 0) (l2 : u2 ≠ 0) (l3 : u3 ≠ 0)
    (h1 : (Float64.cmp x1 y1 == some .eq) = true) (h2 : (Float64.cmp x2 y2 == some .eq) = true) (h3 : (Float64.cmp x3 y3 == some .eq) = true) (h : Q (.bool false) s) :
    wpAny (model prog w) A (compareOp .NotEq (.ref a) (.ref b)) Q E s :=
  SeqAt.RcNeAt.tuples (e := fun _ => true) ha hb hu (fun j j1 j2 => by
    rcases j with _ | _ | _ | j
    · exact float_eqAt k1 l1 hn h1
    · exact float_eqAt k2 l2 hn h2
    · exact float_eqAt k3 l3 hn h3
    · exact absurd j1 (by simp)) prog w E Q (by with_unfolding_all exact h)
theorem none_booked {w : World} {h : Heap} (X : (hd.heap_39 w.params).In h) : NoneBooked h :=
  ⟨h.nsMap cStatics, .of_isNs (isNs_of_in X (by with_unfolding_all rfl)), nsMap_none_of_in X (by with_unfolding_all rfl) (by with_unfolding_all rfl)⟩
local macro_rules | `(tactic| walk_at "mine pos") => `(tactic| first | assumption | exact Nat.le_add_left 1 _ | exact Nat.succ_ne_zero _ | lia | (dsimp only; lia))
local macro_rules | `(tactic| walk_at "After") => `(tactic| (refine fun (hz9 : _ ≤ _) => ?_; (try dsimp only at hz9); (try dsimp only)))
local macro_rules | `(tactic| walk_at "execs cons") => `(tactic| (k_here; (refine execs_after (z := 1) ?hz8 ?_; (case hz8 => walk_at "mine pos")); (try dsimp only)))
local macro_rules | `(tactic| walk_at "isTrue") => `(tactic| (k_here; (fail_if_success (with_reducible show wpAny _ _ _ (fun _ _ => After _ _) _ _)); (refine with_after (z := 1) ?hz8 ?_; (case hz8 => walk_at "mine pos")); (try dsimp only)))
local macro_rules | `(tactic| walk_at "mine after") => `(tactic| (k_here; (fail_if_success (with_reducible show wpAny _ _ _ (fun _ _ => After _ _) _ _)); (refine with_after (z := 1) ?hz8 ?_; (case hz8 => walk_at "mine pos")); (try dsimp only)))
local macro_rules | `(tactic| walk_at "call builtin:abs") => `(tactic| walk_at "mine after")
local macro_rules | `(tactic| walk_at "call builtin:max") => `(tactic| walk_at "mine after")
local macro_rules | `(tactic| walk_at "call builtin:min") => `(tactic| walk_at "mine after")
local macro_rules | `(tactic| walk_at "call ref") => `(tactic| walk_at "mine after")
local macro_rules | `(tactic| walk_at "isTrue Compare") => `(tactic| walk_at "mine after")
local macro_rules | `(tactic| walk_at "isTrue Call") => `(tactic| walk_at "mine after")

theorem hls_grey_t {w : World} {mean : ExcName → Option Value} {mg mb : Str → Option Value} {dp un : Nat} {fr : Option (List Env)} {gd : Option (List Code)} {s : Shared} {Q E : Value → Shared → Prop}
   (X : (hd.heap_39 w.params).In s.heap) (T : Top hd.view_39 (looseW hd.view_39 []) mean mg mb s.heap) (hdp : dp < recursionLimit) (h0 : 1 ≤ s.toks)
   {r g b : UInt64} {t u v : Tok} (h1 : (Float64.cmp (fmin3 r g b) (fmax3 r g b) == some .eq) = true)
   (hret : ∀ a h' tk (t1 t2 t3 : Nat), t1 ≠ 0 → t2 ≠ 0 → t3 ≠ 0 → Keeps s.heap h' → h'.get? a = some (tupOf [.float 0 t1, .float (Float64.div (Float64.add (fmax3 r g b) (fmin3 r g b)) 4611686018427387904) t2, .float 0 t3] 0) → s.heap.get? a = none → Q (.ref a) { s with heap := h', toks := tk }) :
   wpAny (model PySem.Challenge.rw_pe0059_01.row.prog w) (Ar dp un fr gd) (call (.ref 21) [.float r t, .float g u, .float b v]) Q E s := by
  k_dflt (refine' call_frz (binds := [(Str.ofString "r", .float r t), (Str.ofString "g", .float g u), (Str.ofString "b", .float b v)]) X T ?k3 ?k4 hdp ?k6 ?k7 ?_ ?c1 ?c2 ?c3 ?c4; (case k3 => k_is); (case k4 => k_is); (case k6 => exact BindsTo.of_eq rfl); (case k7 => exact locs rfl); (case c1 => decide); (case c2 => exact rfl); (case c3 => exact rfl); (case c4 => exact rfl); k_whole; intro L' h' F' N'; (try dsimp only); (try k_fold))
  k_steps
  all_goals (try k_data)
  all_goals ((try dsimp only [qk]); rename News _ _ _ _ => hN; rename Fr _ _ _ _ => hF; exact hret _ _ _ _ _ _ (by omega) (by omega) (by omega) hF.keep (hN _ (List.Mem.head _)).1 (hN _ (List.Mem.head _)).2.2)
section
variable {prog : Program} {w : World} {A : Around} {E : Value → Shared → Prop} {s : Shared} {Q : Value → Shared → Prop} {h₀ : Heap} {L : Addr} {m : Str → Option Value} {news : List (Addr × Obj)}
theorem item_tupm {value slice : PySem.Expr} {l : Addr} {vs : List Value} {n : Nat} {k : Int} {u : Tok} {j : Nat} {x : Value} (N : News h₀ L s.heap news) (hm : (l, tupOf vs n) ∈ news) (hlo : -(2 ^ 63) ≤ k) (hhi : k < 2 ^ 63) (hj : seqIndex? k vs.length = some j) (hx : vs[j]? = some x) (h : Q x s)
    (hs : subscripted slice false (.ref l) (.int k u) = operate [.ref l, .int k u] (getItem (.ref l) (.int k u)) := by with_unfolding_all rfl) :
    wpAny (model prog w) A (subscriptTail value slice (.ref l) (.int k u)) Q E s := item_tupleT (isTup_mem N hm) hlo hhi hj hx h hs
end
noncomputable def FloatPos (v : Value) (x : UInt64) : Prop := ∃ t : Nat, v = .float x t ∧ t ≠ 0
theorem fltp_step {vs : Array Value} {l l' : List UInt64} {y : UInt64} {t : Nat} (h : All2 FloatPos vs.toList l) (ht : t ≠ 0) (e : l' = l ++ [y]) : All2 FloatPos (vs.push (.float y t)).toList l' := by
  rw [Array.toList_push, e]
  exact h.snoc ⟨t, rfl, ht⟩
noncomputable def rgbs (x y z : Spot) : List (Int × Int × Int) := [(x.r, y.r, z.r), (x.g, y.g, z.g), (x.b, y.b, z.b)]
noncomputable def partsOf (x : Spot) (t1 t2 t3 : Tok) : Array Value := #[.int x.r t1, .int x.g t2, .int x.b t3]
theorem three_parts {x y z : Spot} {t1 t2 t3 u1 u2 u3 v1 v2 v3 : Tok} (hx : 0 ≤ x.r ∧ x.r ≤ 128 ∧ 0 ≤ x.g ∧ x.g ≤ 128 ∧ 0 ≤ x.b ∧ x.b ≤ 128) (hy : 0 ≤ y.r ∧ y.r ≤ 128 ∧ 0 ≤ y.g ∧ y.g ≤ 128 ∧ 0 ≤ y.b ∧ y.b ≤ 128) (hz : 0 ≤ z.r ∧ z.r ≤ 128 ∧ 0 ≤ z.g ∧ z.g ≤ 128 ∧ 0 ≤ z.b ∧ z.b ≤ 128) {k : Nat} (hk : k < 3) :
    ∃ a b c t u v, (#[.int x.r t1, .int x.g t2, .int x.b t3] : Array Value).toList[((k : Int)).toNat]? = some (.int a t) ∧ (#[.int y.r u1, .int y.g u2, .int y.b u3] : Array Value).toList[((k : Int)).toNat]? = some (.int b u) ∧ (#[.int z.r v1, .int z.g v2, .int z.b v3] : Array Value).toList[((k : Int)).toNat]? = some (.int c v) ∧
      (0 ≤ a ∧ a ≤ 128) ∧ (0 ≤ b ∧ b ≤ 128) ∧ (0 ≤ c ∧ c ≤ 128) ∧ ∀ {β : Type} (f : Int × Int × Int → β), ((rgbs x y z).take (k + 1)).map f = ((rgbs x y z).take k).map f ++ [f (a, b, c)] := by
  rcases k with _ | _ | _ | k
  · exact ⟨_, _, _, _, _, _, rfl, rfl, rfl, ⟨by lia, by lia⟩, ⟨by lia, by lia⟩, ⟨by lia, by lia⟩, fun f => rfl⟩
  · exact ⟨_, _, _, _, _, _, rfl, rfl, rfl, ⟨by lia, by lia⟩, ⟨by lia, by lia⟩, ⟨by lia, by lia⟩, fun f => rfl⟩
  · exact ⟨_, _, _, _, _, _, rfl, rfl, rfl, ⟨by lia, by lia⟩, ⟨by lia, by lia⟩, ⟨by lia, by lia⟩, fun f => rfl⟩
  · lia
theorem mixF_abs {w0 w1 w2 a b c : Int} : iq (if w0 * a + w1 * b + w2 * c < 0 then -(w0 * a + w1 * b + w2 * c) else w0 * a + w1 * b + w2 * c) 16777216 = mixF w0 w1 w2 (a, b, c) := rfl
theorem three_mixed {arr : Array Value} {x y z : Spot} {w0 w1 w2 : Int} (e0 : w0 = crossOf (ptOf y) (ptOf z)) (e1 : w1 = crossOf (ptOf z) (ptOf x)) (e2 : w2 = crossOf (ptOf x) (ptOf y))
    (hx : 0 ≤ x.r ∧ x.r ≤ 128 ∧ 0 ≤ x.g ∧ x.g ≤ 128 ∧ 0 ≤ x.b ∧ x.b ≤ 128) (hy : 0 ≤ y.r ∧ y.r ≤ 128 ∧ 0 ≤ y.g ∧ y.g ≤ 128 ∧ 0 ≤ y.b ∧ y.b ≤ 128) (hz : 0 ≤ z.r ∧ z.r ≤ 128 ∧ 0 ≤ z.g ∧ z.g ≤ 128 ∧ 0 ≤ z.b ∧ z.b ≤ 128)
    (h : All2 FloatPos arr.toList (((rgbs x y z).take 3).map (mixF w0 w1 w2))) :
    ∃ mm t1 t2 t3, arr = #[.float mm t1, .float mm t2, .float mm t3] ∧ t1 ≠ 0 ∧ t2 ≠ 0 ∧ t3 ≠ 0 ∧ (Float64.cmp (fmin3 mm mm mm) (fmax3 mm mm mm) == some .eq) = true ∧ (Float64.cmp (Float64.div (Float64.add (fmax3 mm mm mm) (fmin3 mm mm mm)) 4611686018427387904) mm == some .eq) = true ∧ (Float64.cmp 0 0 == some .eq) = true := by
  have hm := mix_even x y z
  rw [← e0, ← e1, ← e2] at hm
  have hb := mix_bound (e0 ▸ cross_bound hy hz) (e1 ▸ cross_bound hz hx) (e2 ▸ cross_bound hx hy) ⟨hx.2.2.2.2.1, hx.2.2.2.2.2⟩ ⟨hy.2.2.2.2.1, hy.2.2.2.2.2⟩ ⟨hz.2.2.2.2.1, hz.2.2.2.2.2⟩
  change -25165824 ≤ mixI w0 w1 w2 (x.b, y.b, z.b) ∧ mixI w0 w1 w2 (x.b, y.b, z.b) ≤ 25165824 at hb
  have h' : All2 FloatPos arr.toList [mixF w0 w1 w2 (x.r, y.r, z.r), mixF w0 w1 w2 (x.g, y.g, z.g), mixF w0 w1 w2 (x.b, y.b, z.b)] := h
  unfold mixF at h'
  rw [hm.1, hm.2] at h'
  generalize mixI w0 w1 w2 (x.b, y.b, z.b) = n at *
  have hg := grey_float (n := if n < 0 then -n else n) (by split <;> lia) (by split <;> lia)
  generalize iq (if n < 0 then -n else n) 16777216 = mm at *
  obtain ⟨l⟩ := arr
  cases h' with
  | cons p h' => cases h' with
    | cons q h' => cases h' with
      | cons r h' =>
        cases h'
        obtain ⟨t1, rfl, n1⟩ := p
        obtain ⟨t2, rfl, n2⟩ := q
        obtain ⟨t3, rfl, n3⟩ := r
        exact ⟨mm, t1, t2, t3, rfl, n1, n2, n3, hg.1, hg.2, by decide +kernel⟩
noncomputable def bords : List Int := [0, 1, 2, 3, 4, 8, 11, 13, 14, 12, 9, 5, 0]
noncomputable def stepF (a b : UInt64) : UInt64 := Float64.sub (Float64.divmod (Float64.add (Float64.sub b a) 4602678819172646912) 4607182418800017408).snd 4602678819172646912
noncomputable def bordF (hs : List UInt64) (k : Nat) : UInt64 := hs.getD (bords.getD k 0).toNat 0
noncomputable def wayF (hs : List UInt64) : Nat → UInt64
  | 0 => 0
  | k + 1 => Float64.add (wayF hs k) (stepF (bordF hs k) (bordF hs (k + 1)))
theorem bord_at {vs : List Value} {k : Nat} (h : IntsAre vs bords) (hk : k < 13) : ∃ t b, vs[k]? = some (.int b t) ∧ b = bords.getD k 0 ∧ 0 ≤ b ∧ b < 15 := by
  have hk' : k < bords.length := hk
  obtain ⟨t, ht⟩ := h.get k (bords[k]'hk') (List.getElem?_eq_getElem hk')
  have hall : ∀ i, (h : i < bords.length) → 0 ≤ bords[i] ∧ bords[i] < 15 := by decide
  exact ⟨t, _, ht, by rw [List.getD_eq_getElem?_getD, List.getElem?_eq_getElem hk']; rfl, hall k hk'⟩
theorem hue_at {hus : List Value} {xs : List UInt64} {b : Int} (h : All2 FloatIs hus xs) (hl : xs.length = 15) (h0 : 0 ≤ b) (h1 : b < 15) : ∃ t, hus[b.toNat]? = some (.float (xs.getD b.toNat 0) t) := by
  have hb : b.toNat < xs.length := by lia
  obtain ⟨v, hv, t, rfl⟩ := h.get (List.getElem?_eq_getElem hb)
  exact ⟨t, by rw [hv, List.getD_eq_getElem?_getD, List.getElem?_eq_getElem hb]; rfl⟩
theorem sgn3_bound (a b c : Int) : -1 ≤ sgn3 a b c ∧ sgn3 a b c ≤ 1 := by
  unfold sgn3
  split
  · lia
  · split <;> lia
theorem sum_bound : ∀ l : List (Int × Int × Int), ∀ ys, -(l.length : Int) ≤ (l.map (triTurn ys)).sum ∧ (l.map (triTurn ys)).sum ≤ l.length
  | [], _ => by simp
  | x :: r, ys => by
    have h := sum_bound r ys
    have h1 : -1 ≤ triTurn ys x ∧ triTurn ys x ≤ 1 := sgn3_bound _ _ _
    simp only [List.map_cons, List.sum_cons, List.length_cons]
    lia
theorem triTurns_bound (ys : List (Int × Int)) : -16 ≤ triTurns ys 16 ∧ triTurns ys 16 ≤ 16 := by
  have h := sum_bound (tris.take 16) ys
  exact h
theorem one_dec : Float64.decode 4607182418800017408 = .fin false (2 ^ 52) (-52) := by with_unfolding_all rfl
theorem half_dec : Float64.decode 4602678819172646912 = .fin false (2 ^ 52) (-53) := by with_unfolding_all rfl
theorem one_val : Fl 4607182418800017408 ∧ Float64.val 4607182418800017408 = 2 ^ 50 * EE := by
  refine ⟨⟨_, _, _, one_dec⟩, ?_⟩
  rw [Float64.val_eq one_dec, ← one_EE_nat]
  show ((2 ^ 52 * 2 ^ 1022 : Nat) : Int) = _
  rw [← Nat.pow_add]
theorem half_val : Fl 4602678819172646912 ∧ Float64.val 4602678819172646912 = 2 ^ 49 * EE := by
  refine ⟨⟨_, _, _, half_dec⟩, ?_⟩
  rw [Float64.val_eq half_dec]
  have h : (2 : Int) ^ 49 * EE = ((2 ^ 1073 : Nat) : Int) := by
    rw [EE_nat, show (2 : Nat) ^ 1073 = 2 ^ 49 * 2 ^ 1024 by rw [← Nat.pow_add]]
    norm_cast
  rw [h]
  show ((2 ^ 52 * 2 ^ 1021 : Nat) : Int) = _
  rw [← Nat.pow_add]
theorem fmod_one {x : UInt64} {a : Bool} {m : Nat} {e : Int} (hx : Float64.decode x = .fin a m e) : Float64.Right (Float64.fmod x 4607182418800017408) a ((Float64.val x).natAbs % 2 ^ 1074) 1 := by
  have he := Float64.decode_ge hx
  have h : Float64.fmod x 4607182418800017408 = Float64.ofBin a ((m * 2 ^ (e - min e (-52)).toNat) % (2 ^ 52 * 2 ^ (-52 - min e (-52)).toNat)) (min e (-52)) := by
    unfold Float64.fmod
    rw [hx, one_dec]
    rfl
  generalize hg : min e (-52) = g at *
  have hg1 : -1074 ≤ g := by lia
  have hg2 : g ≤ e := by lia
  have hg3 : g ≤ -52 := by lia
  have e1 : m * 2 ^ (e - g).toNat * 2 ^ (g + 1074).toNat = (Float64.val x).natAbs := by
    rw [Float64.val_natAbs hx, Nat.mul_assoc, ← Nat.pow_add]
    congr 2
    lia
  have e2 : 2 ^ 52 * 2 ^ (-52 - g).toNat * 2 ^ (g + 1074).toNat = 2 ^ 1074 := by
    rw [Nat.mul_assoc, ← Nat.pow_add, ← Nat.pow_add]
    congr 1
    lia
  rw [h, ← e1, ← e2, Nat.mul_mod_mul_right]
  generalize (m * 2 ^ (e - g).toNat) % (2 ^ 52 * 2 ^ (-52 - g).toNat) = M
  unfold Float64.ofBin
  refine Float64.ofFrac_right (Float64.shift_pos _ _ _ (by decide)) ?_ (by decide)
  have := Float64.shift_one M g 1074 (by lia)
  rw [Nat.mul_one]
  exact this
theorem divmod_snd (x y : UInt64) : (Float64.divmod x y).snd = if Float64.isZero (Float64.fmod x y) = true then Float64.copysign (Float64.zero false) y else if (Float64.lt y (Float64.zero false) != Float64.lt (Float64.fmod x y) (Float64.zero false)) = true then Float64.add (Float64.fmod x y) y else Float64.fmod x y := by
  unfold Float64.divmod
  dsimp only
  by_cases h1 : Float64.isZero (Float64.fmod x y) = true
  · rw [if_pos h1, if_pos h1]
  · rw [if_neg h1, if_neg h1]
    by_cases h2 : (Float64.lt y (Float64.zero false) != Float64.lt (Float64.fmod x y) (Float64.zero false)) = true
    · rw [if_pos h2, if_pos h2]
    · rw [if_neg h2, if_neg h2]
theorem mul_unit {K t : Int} (hK : 0 < K) (h1 : -K < K * t) (h2 : K * t < K) : t = 0 := by
  rcases (by lia : t = 0 ∨ 1 ≤ t ∨ t ≤ -1) with h | h | h
  · exact h
  · have := Int.mul_le_mul_of_nonneg_left h (Int.le_of_lt hK)
    lia
  · have := Int.mul_le_mul_of_nonneg_left h (Int.le_of_lt hK)
    lia
theorem mod_one {x : UInt64} (hx : Fl x) : Fl (Float64.divmod x 4607182418800017408).snd ∧ (Float64.val x = 0 → Float64.val (Float64.divmod x 4607182418800017408).snd = 0) ∧
    ∀ n : Int, 2 * EE ≤ Float64.val x + n * (2 ^ 50 * EE) → Float64.val x + n * (2 ^ 50 * EE) ≤ 2 ^ 50 * EE - 2 * EE →
      -(3 * EE) ≤ Float64.val (Float64.divmod x 4607182418800017408).snd - (Float64.val x + n * (2 ^ 50 * EE)) ∧ Float64.val (Float64.divmod x 4607182418800017408).snd - (Float64.val x + n * (2 ^ 50 * EE)) ≤ 3 * EE := by
  obtain ⟨a, m, e, hx⟩ := hx
  have hr := fmod_one hx
  have sx := val_sign hx
  have hE := EE_pos
  have hKn := one_EE_nat
  have hW : (Float64.val x).natAbs % 2 ^ 1074 < 2 ^ 1074 := Nat.mod_lt _ (Nat.two_pow_pos _)
  have hdm := Nat.div_add_mod (Float64.val x).natAbs (2 ^ 1074)
  obtain ⟨⟨m', e', hd⟩, v, hv, hdist⟩ := right_near 1024 hr (by decide) (by decide) (by
    rw [Nat.one_mul]
    have e1 : (2 : Nat) ^ 53 * 2 ^ 1024 = 8 * 2 ^ 1074 := by rw [show (8 : Nat) = 2 ^ 3 by rfl, ← Nat.pow_add]
    rw [e1]
    generalize (2 : Nat) ^ 1074 = K at *
    lia)
  have hm : Fl (Float64.fmod x 4607182418800017408) := ⟨_, m', e', hd⟩
  have hEn := EE_nat
  rw [Nat.one_mul, Nat.one_mul] at hdist
  rw [divmod_snd]
  have hz := fl_zero false
  have c1 : Float64.lt 4607182418800017408 (Float64.zero false) = false := by decide +kernel
  have c2 : Float64.lt (Float64.fmod x 4607182418800017408) (Float64.zero false) = decide (Float64.val (Float64.fmod x 4607182418800017408) < 0) := by
    unfold Float64.lt
    rw [cmp_lt hm hz.1, hz.2]
  have c3 : Float64.copysign (Float64.zero false) 4607182418800017408 = Float64.zero false := by decide +kernel
  rw [isZero_val hm, c1, c2, c3]
  have hzero : Float64.val x = 0 → Float64.val (Float64.fmod x 4607182418800017408) = 0 := by
    intro h0
    have hr' := hr
    rw [h0] at hr'
    have := (right_exact (q := 0) 0 hr' (by decide) (by decide) (by decide) (by simp)).2
    rw [this]
    cases a <;> simp [Float64.sgn]
  have hvs := sgn_cases a v
  rw [← hv] at hvs
  have hadd := add_near 1024 (by decide) hm one_val.1
  rw [one_val.2, ← hEn] at hadd
  have e1 : ((2 ^ 53 * 2 ^ 1024 : Nat) : Int) = 2 ^ 53 * EE := by rw [hEn]; norm_cast
  generalize Float64.fmod x 4607182418800017408 = f at *
  generalize (2 : Nat) ^ 53 * 2 ^ 1024 = B at *
  generalize hQ : (Float64.val x).natAbs / 2 ^ 1074 = Q at *
  generalize hWW : (Float64.val x).natAbs % 2 ^ 1074 = W at *
  generalize (2 : Nat) ^ 1074 = K at *
  generalize (2 : Nat) ^ 1024 = C at *
  unfold Float64.dist at hdist
  have hKQ : ((K * Q : Nat) : Int) = (K : Int) * (Q : Int) := Int.natCast_mul _ _
  have hval : Float64.val f + 2 ^ 50 * EE = Float64.val f + (K : Int) := by rw [← hKn]
  have hab : (Float64.val f + 2 ^ 50 * EE).natAbs ≤ B := by
    rw [hval]
    rcases hvs with ⟨_, h⟩ | ⟨_, h⟩ <;> rw [h] <;> lia
  obtain ⟨hadd, ha1, ha2, _⟩ := hadd hab
  refine ⟨?_, fun h0 => ?_, fun n h1 h2 => ?_⟩
  · split
    · exact hz.1
    · split
      · exact hadd
      · exact hm
  · rw [if_pos (by simp [hzero h0])]
    exact hz.2
  · rw [← hKn] at h1 h2 ⊢
    rcases sx with ⟨ha, sx⟩ | ⟨ha, sx⟩
    · have hvs : Float64.val f = v := by rcases hvs with h | h; exact h.2; rw [ha] at h; exact absurd h.1 (by decide)
      have hx2 : Float64.val x + n * (K : Int) = (K : Int) * (Q + n) + W := by
        rw [sx, Int.mul_add, ← hKQ, Int.mul_comm n]
        lia
      have ht := mul_unit (K := (K : Int)) (t := Q + n) (by lia) (by lia) (by lia)
      rw [ht, Int.mul_zero] at hx2
      rw [if_neg (by simp; lia), if_neg (by simp; lia)]
      lia
    · have hvs : Float64.val f = -(v : Int) := by rcases hvs with h | h; rw [ha] at h; exact absurd h.1 (by decide); exact h.2
      have hx2 : Float64.val x + n * (K : Int) = (K : Int) * (n - Q - 1) + (K - W) := by
        rw [sx, Int.mul_sub, Int.mul_sub, ← hKQ, Int.mul_comm n, Int.mul_one]
        lia
      have ht := mul_unit (K := (K : Int)) (t := n - Q - 1) (by lia) (by lia) (by lia)
      rw [ht, Int.mul_zero] at hx2
      rw [if_neg (by simp; lia), if_pos (by simp; lia)]
      lia
/-- the shorter way on the ring -/
noncomputable def dS (ring p q : Int) : Int := if ring < 2 * (q - p) then q - p - ring else if 2 * (q - p) < -ring then q - p + ring else q - p
/-- a hue lies near its place's share of the ring -/
structure HueAt (ring p : Int) (h : UInt64) : Prop where
  fl : Fl h
  lo : -(ring * (100 * EE)) ≤ ring * Float64.val h - 2 ^ 50 * (p * EE)
  hi : ring * Float64.val h - 2 ^ 50 * (p * EE) ≤ ring * (100 * EE)
theorem mulE {u v : Int} (h : u ≤ v) : u * EE ≤ v * EE := Int.mul_le_mul_of_nonneg_right h (Int.le_of_lt EE_pos)
theorem ring_bounds {R p q n va vb : Int} (h0 : 1 ≤ R) (h1 : R ≤ 63) (hp : 0 ≤ p) (hp' : p < R) (hq : 0 ≤ q) (hq' : q < R)
    (a1 : -(R * (100 * EE)) ≤ R * va - 2 ^ 50 * (p * EE)) (a2 : R * va - 2 ^ 50 * (p * EE) ≤ R * (100 * EE))
    (b1 : -(R * (100 * EE)) ≤ R * vb - 2 ^ 50 * (q * EE)) (b2 : R * vb - 2 ^ 50 * (q * EE) ≤ R * (100 * EE))
    (n1 : -R < 2 * (q - p) + 2 * (n * R)) (n2 : 2 * (q - p) + 2 * (n * R) < R) :
    (-(2 ^ 50 * EE - 100 * EE) ≤ 2 * (vb - va) + 2 * (n * (2 ^ 50 * EE)) ∧ 2 * (vb - va) + 2 * (n * (2 ^ 50 * EE)) ≤ 2 ^ 50 * EE - 100 * EE) ∧ (-(100 * EE) ≤ va ∧ va ≤ 2 ^ 50 * EE + 100 * EE) ∧ (-(100 * EE) ≤ vb ∧ vb ≤ 2 ^ 50 * EE + 100 * EE) := by
  have hE := EE_pos
  have key : ∀ {X Y : Int}, R * X ≤ R * Y → X ≤ Y := fun h => Int.le_of_mul_le_mul_left h (by lia)
  have r1 := mulE h1
  have p1 := mulE hp
  have p2 := mulE (show p ≤ R - 1 by lia)
  have q1 := mulE hq
  have q2 := mulE (show q ≤ R - 1 by lia)
  have d1 := mulE (show -R + 1 ≤ 2 * (q - p) + 2 * (n * R) by lia)
  have d2 := mulE (show 2 * (q - p) + 2 * (n * R) ≤ R - 1 by lia)
  simp only [Int.add_mul, Int.sub_mul, Int.neg_mul, Int.mul_assoc, Int.zero_mul, Int.one_mul] at p1 p2 q1 q2 d1 d2
  simp only [Int.mul_left_comm R] at a1 a2 b1 b2
  refine ⟨⟨key ?_, key ?_⟩, ⟨key ?_, key ?_⟩, key ?_, key ?_⟩ <;> simp only [Int.mul_add, Int.mul_sub, Int.mul_neg, Int.mul_left_comm R, Int.mul_left_comm n (2 ^ 50)] <;> lia
theorem step_near {c p q : Int} {a b : UInt64} (h0 : 0 ≤ c) (h1 : c ≤ 10) (hp : 0 ≤ p) (hp' : p < 3 * (2 * c + 1)) (hq : 0 ≤ q) (hq' : q < 3 * (2 * c + 1)) (Ha : HueAt (3 * (2 * c + 1)) p a) (Hb : HueAt (3 * (2 * c + 1)) q b) :
    ∃ n : Int, dS (3 * (2 * c + 1)) p q = q - p + n * (3 * (2 * c + 1)) ∧ Fl (stepF a b) ∧ -(7 * EE) ≤ Float64.val (stepF a b) - (Float64.val b - Float64.val a + n * (2 ^ 50 * EE)) ∧ Float64.val (stepF a b) - (Float64.val b - Float64.val a + n * (2 ^ 50 * EE)) ≤ 7 * EE ∧
      -(2 ^ 50 * EE) ≤ 2 * Float64.val (stepF a b) ∧ 2 * Float64.val (stepF a b) ≤ 2 ^ 50 * EE := by
  have hn : ∃ n : Int, (n = -1 ∨ n = 0 ∨ n = 1) ∧ dS (3 * (2 * c + 1)) p q = q - p + n * (3 * (2 * c + 1)) ∧ -(3 * (2 * c + 1)) < 2 * (q - p) + 2 * (n * (3 * (2 * c + 1))) ∧ 2 * (q - p) + 2 * (n * (3 * (2 * c + 1))) < 3 * (2 * c + 1) := by
    unfold dS
    split
    · exact ⟨-1, by lia, by lia, by lia, by lia⟩
    · split
      · exact ⟨1, by lia, by lia, by lia, by lia⟩
      · exact ⟨0, by lia, by lia, by lia, by lia⟩
  obtain ⟨n, hn, hd, n1, n2⟩ := hn
  refine ⟨n, hd, ?_⟩
  obtain ⟨⟨r1, r2⟩, ⟨u1, u2⟩, v1, v2⟩ := ring_bounds (show 1 ≤ 3 * (2 * c + 1) by lia) (show 3 * (2 * c + 1) ≤ 63 by lia) hp hp' hq hq' Ha.lo Ha.hi Hb.lo Hb.hi n1 n2
  have hE := EE_pos
  have e1 : ((2 ^ 53 * 2 ^ 1024 : Nat) : Int) = 2 ^ 53 * EE := by rw [EE_nat]; norm_cast
  have hnE : n * (2 ^ 50 * EE) = -(2 ^ 50 * EE) ∨ n * (2 ^ 50 * EE) = 0 ∨ n * (2 ^ 50 * EE) = 2 ^ 50 * EE := by rcases hn with rfl | rfl | rfl <;> lia
  have s1 := sub_near 1024 (by decide) Hb.fl Ha.fl
  have s2 := fun h => add_near (x := Float64.sub b a) 1024 (by decide) h half_val.1
  have s3 := fun h => mod_one (x := Float64.add (Float64.sub b a) 4602678819172646912) h
  have s4 := fun h => sub_near (x := (Float64.divmod (Float64.add (Float64.sub b a) 4602678819172646912) 4607182418800017408).snd) 1024 (by decide) h half_val.1
  rw [half_val.2, ← EE_nat] at s2 s4
  rw [← EE_nat] at s1
  change Fl _ → _ → Fl (stepF a b) ∧ _ at s4
  generalize 2 ^ 53 * 2 ^ 1024 = B at *
  obtain ⟨f1, k1, k2, _⟩ := s1 (by lia)
  obtain ⟨f2, k3, k4, _⟩ := s2 f1 (by lia)
  obtain ⟨f3, _, k5⟩ := s3 f2
  have k6 := k5 n (by lia) (by lia)
  have e5 : stepF a b = Float64.sub (Float64.divmod (Float64.add (Float64.sub b a) 4602678819172646912) 4607182418800017408).snd 4602678819172646912 := rfl
  obtain ⟨f4, k7, k8, _⟩ := s4 f3 (by lia)
  rw [← e5] at k7 k8
  exact ⟨f4, by lia, by lia, by lia, by lia⟩
/-- the places along the border, the whole turns taken so far -/
theorem way_near {c : Int} {hs : List UInt64} {pl : Nat → Int} (h0 : 0 ≤ c) (h1 : c ≤ 10) (hp : ∀ k, k ≤ 12 → 0 ≤ pl k ∧ pl k < 3 * (2 * c + 1)) (hh : ∀ k, k ≤ 12 → HueAt (3 * (2 * c + 1)) (pl k) (bordF hs k)) :
    ∀ k, k ≤ 12 → ∃ N : Int, ((List.range k).map fun i => dS (3 * (2 * c + 1)) (pl i) (pl (i + 1))).sum = pl k - pl 0 + N * (3 * (2 * c + 1)) ∧ Fl (wayF hs k) ∧
      -(k * (8 * EE)) ≤ Float64.val (wayF hs k) - (Float64.val (bordF hs k) - Float64.val (bordF hs 0) + N * (2 ^ 50 * EE)) ∧ Float64.val (wayF hs k) - (Float64.val (bordF hs k) - Float64.val (bordF hs 0) + N * (2 ^ 50 * EE)) ≤ k * (8 * EE) ∧
      -(k * (2 ^ 49 * EE + EE)) ≤ Float64.val (wayF hs k) ∧ Float64.val (wayF hs k) ≤ k * (2 ^ 49 * EE + EE)
  | 0, _ => by
    have hz := fl_zero false
    have e0 : Float64.zero false = 0 := by decide +kernel
    rw [e0] at hz
    refine ⟨0, by simp, hz.1, ?_⟩
    show _ ≤ Float64.val 0 - _ ∧ Float64.val 0 - _ ≤ _ ∧ _ ≤ Float64.val 0 ∧ Float64.val 0 ≤ _
    rw [hz.2]
    simp
  | k + 1, hk => by
    obtain ⟨N, hd, hf, w1, w2, w3, w4⟩ := way_near h0 h1 hp hh k (by lia)
    have hpk := hp k (by lia)
    have hpk1 := hp (k + 1) hk
    obtain ⟨n, hn, gf, g1, g2, g3, g4⟩ := step_near h0 h1 hpk.1 hpk.2 hpk1.1 hpk1.2 (hh k (by lia)) (hh (k + 1) hk)
    have hE := EE_pos
    have e1 : ((2 ^ 53 * 2 ^ 1024 : Nat) : Int) = 2 ^ 53 * EE := by rw [EE_nat]; norm_cast
    have s := add_near 1024 (by decide) hf gf
    rw [← EE_nat] at s
    generalize 2 ^ 53 * 2 ^ 1024 = B at *
    have kE := mulE (show (k : Int) ≤ 11 by lia)
    have kE0 := mulE (show (0 : Int) ≤ k by lia)
    have x1 : (k : Int) * (8 * EE) = 8 * (k * EE) := by rw [Int.mul_left_comm]
    have x2 : (k : Int) * (2 ^ 49 * EE + EE) = 2 ^ 49 * (k * EE) + k * EE := by rw [Int.mul_add, Int.mul_left_comm]
    have x3 : ((k + 1 : Nat) : Int) * (8 * EE) = 8 * (k * EE) + 8 * EE := by rw [Int.natCast_add, Int.add_mul, x1]; simp
    have x4 : ((k + 1 : Nat) : Int) * (2 ^ 49 * EE + EE) = 2 ^ 49 * (k * EE) + k * EE + (2 ^ 49 * EE + EE) := by rw [Int.natCast_add, Int.add_mul, x2]; simp
    rw [x1] at w1 w2
    rw [x2] at w3 w4
    rw [x3, x4]
    generalize (k : Int) * EE = KE at *
    obtain ⟨s1, s2, s3, _⟩ := s (by lia)
    refine ⟨N + n, ?_, s1, ?_⟩
    · rw [List.range_succ, List.map_append, List.sum_append, hd]
      simp only [List.map_cons, List.map_nil, List.sum_cons, List.sum_nil, Int.add_zero]
      rw [hn, Int.add_mul]
      lia
    · have e2 : wayF hs (k + 1) = Float64.add (wayF hs k) (stepF (bordF hs k) (bordF hs (k + 1))) := rfl
      rw [e2, Int.add_mul]
      refine ⟨?_, ?_, ?_, ?_⟩ <;> lia
theorem border_round {c : Int} {hs : List UInt64} {pl : Nat → Int} (h0 : 0 ≤ c) (h1 : c ≤ 10) (hp : ∀ k, k ≤ 12 → 0 ≤ pl k ∧ pl k < 3 * (2 * c + 1)) (hh : ∀ k, k ≤ 12 → HueAt (3 * (2 * c + 1)) (pl k) (bordF hs k)) (hc : pl 12 = pl 0) (hcf : bordF hs 12 = bordF hs 0)
    {T : Int} (hT : 3 * (2 * c + 1) * T = ((List.range 12).map fun i => dS (3 * (2 * c + 1)) (pl i) (pl (i + 1))).sum) :
    Float64.isFinite (Float64.mul (Float64.ofInt 1048576) (wayF hs 12)) = true ∧ toInt Float64.nearestOf (Float64.mul (Float64.ofInt 1048576) (wayF hs 12)) = 1048576 * T := by
  obtain ⟨N, hd, hf, w1, w2, w3, w4⟩ := way_near h0 h1 hp hh 12 (by decide)
  rw [hd, hc] at hT
  have hTN : T = N := by
    have : 3 * (2 * c + 1) * T = 3 * (2 * c + 1) * N := by rw [hT, Int.mul_comm N]; lia
    exact Int.eq_of_mul_eq_mul_left (by lia) this
  rw [hcf] at w1 w2
  have hE := EE_pos
  have e1 : ((2 ^ 53 * 2 ^ 1048 : Nat) : Int) = 2 ^ 77 * EE := by
    rw [EE_nat, show (2 : Nat) ^ 53 * 2 ^ 1048 = 2 ^ 77 * 2 ^ 1024 by rw [← Nat.pow_add]]
    norm_cast
  have s := mulInt_near (n := 1048576) (by decide) hf
  generalize 2 ^ 53 * 2 ^ 1048 = B at *
  obtain ⟨s1, s2, s3⟩ := s (by lia)
  refine ⟨fl_finite s1, nearest_of s1 ?_ ?_⟩
  · rw [hTN, Int.mul_assoc]
    lia
  · rw [hTN, Int.mul_assoc]
    lia
/-- the point of a place, for the unit 1 and no white -/
noncomputable def pt0 (side place : Int) : Int × Int := (2 * compOf side place 0 - compOf side place side - compOf side place (2 * side), compOf side place side - compOf side place (2 * side))
noncomputable def signOk (ring : Int) (a b : (Int × Int) × Int) : Bool := Int.sign (crossOf a.1 b.1) == Int.sign (dS ring a.2 b.2)
noncomputable def ringPts (side : Int) (n : Nat) : List ((Int × Int) × Int) := (List.range n).map fun p : Nat => (pt0 side (p : Int), (p : Int))
noncomputable def ringOk (side : Int) (n : Nat) : Bool := (ringPts side n).all fun a => (ringPts side n).all fun b => signOk (3 * side) a b
theorem ring_ok0 : ringOk 1 3 = true := by decide +kernel
theorem ring_ok1 : ringOk 3 9 = true := by decide +kernel
theorem ring_ok2 : ringOk 5 15 = true := by decide +kernel
theorem ring_ok3 : ringOk 7 21 = true := by decide +kernel
theorem ring_ok4 : ringOk 9 27 = true := by decide +kernel
theorem ring_ok5 : ringOk 11 33 = true := by decide +kernel
theorem ring_ok6 : ringOk 13 39 = true := by decide +kernel
theorem ring_ok7 : ringOk 15 45 = true := by decide +kernel
theorem ring_ok8 : ringOk 17 51 = true := by decide +kernel
theorem ring_ok9 : ringOk 19 57 = true := by decide +kernel
theorem ring_ok10 : ringOk 21 63 = true := by decide +kernel
theorem ring_at {side : Int} {n : Nat} (h : ringOk side n = true) {p q : Int} (hp : 0 ≤ p ∧ p < n) (hq : 0 ≤ q ∧ q < n) : Int.sign (crossOf (pt0 side p) (pt0 side q)) = Int.sign (dS (3 * side) p q) := by
  have hm : ∀ x : Int, 0 ≤ x ∧ x < n → (pt0 side x, x) ∈ ringPts side n := fun x hx => by
    refine List.mem_map.mpr ⟨x.toNat, List.mem_range.mpr (by lia), ?_⟩
    rw [show ((x.toNat : Nat) : Int) = x by lia]
  have h1 := List.all_eq_true.mp h _ (hm p hp)
  have h2 := List.all_eq_true.mp h1 _ (hm q hq)
  exact beq_iff_eq.mp h2
theorem cross_sign0 {c p q : Int} (h0 : 0 ≤ c) (h1 : c ≤ 10) (hp : 0 ≤ p ∧ p < 3 * (2 * c + 1)) (hq : 0 ≤ q ∧ q < 3 * (2 * c + 1)) : Int.sign (crossOf (pt0 (2 * c + 1) p) (pt0 (2 * c + 1) q)) = Int.sign (dS (3 * (2 * c + 1)) p q) := by
  rcases (by lia : c = 0 ∨ c = 1 ∨ c = 2 ∨ c = 3 ∨ c = 4 ∨ c = 5 ∨ c = 6 ∨ c = 7 ∨ c = 8 ∨ c = 9 ∨ c = 10) with rfl | rfl | rfl | rfl | rfl | rfl | rfl | rfl | rfl | rfl | rfl
  · exact ring_at ring_ok0 hp hq
  · exact ring_at ring_ok1 hp hq
  · exact ring_at ring_ok2 hp hq
  · exact ring_at ring_ok3 hp hq
  · exact ring_at ring_ok4 hp hq
  · exact ring_at ring_ok5 hp hq
  · exact ring_at ring_ok6 hp hq
  · exact ring_at ring_ok7 hp hq
  · exact ring_at ring_ok8 hp hq
  · exact ring_at ring_ok9 hp hq
  · exact ring_at ring_ok10 hp hq
theorem pt_scaled (side cell : Int) : ptOf (spotOf side cell) = (spUnit side cell * (pt0 side (spPlace side cell)).1, spUnit side cell * (pt0 side (spPlace side cell)).2) := by
  unfold ptOf spotOf pt0 spPart
  dsimp only
  generalize spUnit side cell = u
  generalize compOf side (spPlace side cell) 0 = a
  generalize compOf side (spPlace side cell) side = b
  generalize compOf side (spPlace side cell) (2 * side) = d
  generalize spWhite side cell = w
  refine Prod.ext ?_ ?_
  · show 2 * (w + u * a) - (w + u * b) - (w + u * d) = u * (2 * a - b - d)
    rw [Int.mul_sub, Int.mul_sub, Int.mul_left_comm u 2]
    lia
  · show w + u * b - (w + u * d) = u * (b - d)
    rw [Int.mul_sub]
    lia
theorem cross_scaled (u v : Int) (p q : Int × Int) : crossOf (u * p.1, u * p.2) (v * q.1, v * q.2) = (u * v) * crossOf p q := by
  unfold crossOf
  dsimp only
  rw [Int.mul_sub]
  congr 1 <;> ac_rfl
theorem unit_pos (side cell : Int) : 0 < spUnit side cell := by
  unfold spUnit
  have := Int.fmod_nonneg_of_pos ((spN side cell).fdiv (3 * side)) (show (0 : Int) < 4 by decide)
  lia
theorem place_in {side : Int} (h : 1 ≤ side) (cell : Int) : 0 ≤ spPlace side cell ∧ spPlace side cell < 3 * side :=
  ⟨Int.fmod_nonneg_of_pos _ (by lia), Int.fmod_lt_of_pos _ (by lia)⟩
theorem sign_mul_pos {a b : Int} (h : 0 < a) : Int.sign (a * b) = Int.sign b := by rw [Int.sign_mul, Int.sign_eq_one_of_pos h, Int.one_mul]
theorem cross_sign {c a b : Int} (h0 : 0 ≤ c) (h1 : c ≤ 10) : Int.sign (crossOf (ptOf (spotOf (2 * c + 1) a)) (ptOf (spotOf (2 * c + 1) b))) = Int.sign (dS (3 * (2 * c + 1)) (spPlace (2 * c + 1) a) (spPlace (2 * c + 1) b)) := by
  rw [pt_scaled, pt_scaled, cross_scaled, sign_mul_pos (Int.mul_pos (unit_pos _ _) (unit_pos _ _))]
  exact cross_sign0 h0 h1 (place_in (by lia) a) (place_in (by lia) b)
theorem sgn3_of_sign {a b d x y z : Int} (h1 : Int.sign a = Int.sign x) (h2 : Int.sign b = Int.sign y) (h3 : Int.sign d = Int.sign z) : sgn3 a b d = sgn3 x y z := by
  have hs : ∀ u v : Int, Int.sign u = Int.sign v → (0 < u ↔ 0 < v) ∧ (u < 0 ↔ v < 0) := fun u v h => by
    refine ⟨?_, ?_⟩
    · rw [← Int.sign_eq_one_iff_pos, ← Int.sign_eq_one_iff_pos, h]
    · rw [← Int.sign_eq_neg_one_iff_neg, ← Int.sign_eq_neg_one_iff_neg, h]
  unfold sgn3
  simp only [(hs _ _ h1).1, (hs _ _ h2).1, (hs _ _ h3).1, (hs _ _ h1).2, (hs _ _ h2).2, (hs _ _ h3).2]
theorem sum_turn {N h k a b d : Int} (h0 : 0 ≤ h) (hN : N = 2 * h + 1) (hs : a + b + d = k * N) (a1 : -h ≤ a) (a2 : a ≤ h) (b1 : -h ≤ b) (b2 : b ≤ h) (d1 : -h ≤ d) (d2 : d ≤ h) : a + b + d = 0 ∨ a + b + d = N ∨ a + b + d = -N := by
  have hk : k = 0 ∨ k = 1 ∨ k = -1 ∨ 2 ≤ k ∨ k ≤ -2 := by lia
  rcases hk with rfl | rfl | rfl | hk | hk
  · left; rw [hs, Int.zero_mul]
  · right; left; rw [hs, Int.one_mul]
  · right; right; rw [hs, Int.neg_mul, Int.one_mul]
  · have := Int.mul_le_mul_of_nonneg_right hk (show 0 ≤ N by lia)
    lia
  · have := Int.mul_le_mul_of_nonneg_right hk (show 0 ≤ N by lia)
    lia
theorem tri_sum {h p q r : Int} (hp : 0 ≤ p ∧ p < 2 * h + 1) (hq : 0 ≤ q ∧ q < 2 * h + 1) (hr : 0 ≤ r ∧ r < 2 * h + 1) : (2 * h + 1) * sgn3 (dS (2 * h + 1) q r) (dS (2 * h + 1) r p) (dS (2 * h + 1) p q) = dS (2 * h + 1) q r + dS (2 * h + 1) r p + dS (2 * h + 1) p q := by
  have key : ∀ a b d : Int, (a + b + d = 0 ∨ a + b + d = 2 * h + 1 ∨ a + b + d = -(2 * h + 1)) → -h ≤ a → a ≤ h → -h ≤ b → b ≤ h → -h ≤ d → d ≤ h → (2 * h + 1) * sgn3 a b d = a + b + d := fun a b d hs a1 a2 b1 b2 d1 d2 => by
    unfold sgn3
    rcases hs with hs | hs | hs
    · rw [if_neg (by lia), if_neg (by lia)]; lia
    · rw [if_pos (by lia)]; lia
    · rw [if_neg (by lia), if_pos (by lia)]; lia
  have hb : ∀ x y : Int, 0 ≤ x → x < 2 * h + 1 → 0 ≤ y → y < 2 * h + 1 → -h ≤ dS (2 * h + 1) x y ∧ dS (2 * h + 1) x y ≤ h ∧ ∃ e : Int, dS (2 * h + 1) x y = y - x + e * (2 * h + 1) := fun x y _ _ _ _ => by
    unfold dS
    split
    · exact ⟨by lia, by lia, -1, by lia⟩
    · split
      · exact ⟨by lia, by lia, 1, by lia⟩
      · exact ⟨by lia, by lia, 0, by lia⟩
  obtain ⟨a1, a2, e1, ha⟩ := hb q r hq.1 hq.2 hr.1 hr.2
  obtain ⟨b1, b2, e2, hb'⟩ := hb r p hr.1 hr.2 hp.1 hp.2
  obtain ⟨d1, d2, e3, hd'⟩ := hb p q hp.1 hp.2 hq.1 hq.2
  refine key _ _ _ (sum_turn (k := e1 + e2 + e3) (by lia) rfl ?_ a1 a2 b1 b2 d1 d2) a1 a2 b1 b2 d1 d2
  rw [ha, hb', hd', Int.add_mul, Int.add_mul]
  generalize e1 * (2 * h + 1) = x1
  generalize e2 * (2 * h + 1) = x2
  generalize e3 * (2 * h + 1) = x3
  clear ha hb' hd' key hb a1 a2 b1 b2 d1 d2
  lia
theorem dS_anti {h p q : Int} (hh : 0 ≤ h) : dS (2 * h + 1) q p = -dS (2 * h + 1) p q := by
  unfold dS
  (repeat' split) <;> lia
/-- the whole of the small triangles against the border -/
theorem sperner {c : Int} (h0 : 0 ≤ c) (h1 : c ≤ 10) {cs : List Int} (hl : cs.length = 15) :
    3 * (2 * c + 1) * triTurns ((cs.map (spotOf (2 * c + 1))).map ptOf) 16 =
      ((List.range 12).map fun i => dS (3 * (2 * c + 1)) (spPlace (2 * c + 1) (cs.getD (bords.getD i 0).toNat 0)) (spPlace (2 * c + 1) (cs.getD (bords.getD (i + 1) 0).toNat 0))).sum := by
  have hr : 3 * (2 * c + 1) = 2 * (3 * c + 1) + 1 := by lia
  have hpt : ∀ k : Nat, k < 15 → ((cs.map (spotOf (2 * c + 1))).map ptOf).getD k (0, 0) = ptOf (spotOf (2 * c + 1) (cs.getD k 0)) := fun k hk => by
    have hk' : k < cs.length := by lia
    rw [List.getD_eq_getElem?_getD, List.getD_eq_getElem?_getD, List.getElem?_map, List.getElem?_map, List.getElem?_eq_getElem hk']
    rfl
  have hpl : ∀ k : Nat, 0 ≤ spPlace (2 * c + 1) (cs.getD k 0) ∧ spPlace (2 * c + 1) (cs.getD k 0) < 2 * (3 * c + 1) + 1 := fun k => by
    have := place_in (show 1 ≤ 2 * c + 1 by lia) (cs.getD k 0)
    lia
  have ht : ∀ i j k : Nat, i < 15 → j < 15 → k < 15 → 3 * (2 * c + 1) * triTurn ((cs.map (spotOf (2 * c + 1))).map ptOf) ((i : Int), (j : Int), (k : Int)) =
      dS (3 * (2 * c + 1)) (spPlace (2 * c + 1) (cs.getD j 0)) (spPlace (2 * c + 1) (cs.getD k 0)) + dS (3 * (2 * c + 1)) (spPlace (2 * c + 1) (cs.getD k 0)) (spPlace (2 * c + 1) (cs.getD i 0)) + dS (3 * (2 * c + 1)) (spPlace (2 * c + 1) (cs.getD i 0)) (spPlace (2 * c + 1) (cs.getD j 0)) := fun i j k hi hj hk => by
    unfold triTurn
    dsimp only
    rw [Int.toNat_natCast, Int.toNat_natCast, Int.toNat_natCast, hpt i hi, hpt j hj, hpt k hk, sgn3_of_sign (cross_sign h0 h1) (cross_sign h0 h1) (cross_sign h0 h1), hr]
    exact tri_sum (hpl i) (hpl j) (hpl k)
  have ha : ∀ i j : Nat, dS (3 * (2 * c + 1)) (spPlace (2 * c + 1) (cs.getD i 0)) (spPlace (2 * c + 1) (cs.getD j 0)) = -dS (3 * (2 * c + 1)) (spPlace (2 * c + 1) (cs.getD j 0)) (spPlace (2 * c + 1) (cs.getD i 0)) := fun i j => by
    rw [hr]
    exact dS_anti (by lia)
  generalize hD : (fun i j : Nat => dS (3 * (2 * c + 1)) (spPlace (2 * c + 1) (cs.getD i 0)) (spPlace (2 * c + 1) (cs.getD j 0))) = D
  have hD' : ∀ i j : Nat, dS (3 * (2 * c + 1)) (spPlace (2 * c + 1) (cs.getD i 0)) (spPlace (2 * c + 1) (cs.getD j 0)) = D i j := fun i j => by rw [← hD]
  simp only [hD'] at ht ha
  have hR : ((List.range 12).map fun i => dS (3 * (2 * c + 1)) (spPlace (2 * c + 1) (cs.getD (bords.getD i 0).toNat 0)) (spPlace (2 * c + 1) (cs.getD (bords.getD (i + 1) 0).toNat 0))).sum =
      D 0 1 + D 1 2 + D 2 3 + D 3 4 + D 4 8 + D 8 11 + D 11 13 + D 13 14 + D 14 12 + D 12 9 + D 9 5 + D 5 0 := by
    simp only [hD']
    show D 0 1 + (D 1 2 + (D 2 3 + (D 3 4 + (D 4 8 + (D 8 11 + (D 11 13 + (D 13 14 + (D 14 12 + (D 12 9 + (D 9 5 + (D 5 0 + 0))))))))))) = _
    lia
  rw [hR]
  generalize (cs.map (spotOf (2 * c + 1))).map ptOf = ys at *
  have hL : triTurns ys 16 = triTurn ys (0, 1, 5) + (triTurn ys (1, 6, 5) + (triTurn ys (1, 2, 6) + (triTurn ys (2, 7, 6) + (triTurn ys (2, 3, 7) + (triTurn ys (3, 8, 7) + (triTurn ys (3, 4, 8) + (triTurn ys (5, 6, 9) + (triTurn ys (6, 10, 9) + (triTurn ys (6, 7, 10) + (triTurn ys (7, 11, 10) + (triTurn ys (7, 8, 11) + (triTurn ys (9, 10, 12) + (triTurn ys (10, 13, 12) + (triTurn ys (10, 11, 13) + (triTurn ys (12, 13, 14) + 0))))))))))))))) := rfl
  rw [hL]
  clear hR hpl hr hD hD' hL hpt
  generalize 3 * (2 * c + 1) = ring at *
  simp only [Int.mul_add, Int.mul_zero]
  have t0 : ring * triTurn ys (0, 1, 5) = D 1 5 + D 5 0 + D 0 1 := ht 0 1 5 (by decide) (by decide) (by decide)
  have t1 : ring * triTurn ys (1, 6, 5) = D 6 5 + D 5 1 + D 1 6 := ht 1 6 5 (by decide) (by decide) (by decide)
  have t2 : ring * triTurn ys (1, 2, 6) = D 2 6 + D 6 1 + D 1 2 := ht 1 2 6 (by decide) (by decide) (by decide)
  have t3 : ring * triTurn ys (2, 7, 6) = D 7 6 + D 6 2 + D 2 7 := ht 2 7 6 (by decide) (by decide) (by decide)
  have t4 : ring * triTurn ys (2, 3, 7) = D 3 7 + D 7 2 + D 2 3 := ht 2 3 7 (by decide) (by decide) (by decide)
  have t5 : ring * triTurn ys (3, 8, 7) = D 8 7 + D 7 3 + D 3 8 := ht 3 8 7 (by decide) (by decide) (by decide)
  have t6 : ring * triTurn ys (3, 4, 8) = D 4 8 + D 8 3 + D 3 4 := ht 3 4 8 (by decide) (by decide) (by decide)
  have t7 : ring * triTurn ys (5, 6, 9) = D 6 9 + D 9 5 + D 5 6 := ht 5 6 9 (by decide) (by decide) (by decide)
  have t8 : ring * triTurn ys (6, 10, 9) = D 10 9 + D 9 6 + D 6 10 := ht 6 10 9 (by decide) (by decide) (by decide)
  have t9 : ring * triTurn ys (6, 7, 10) = D 7 10 + D 10 6 + D 6 7 := ht 6 7 10 (by decide) (by decide) (by decide)
  have t10 : ring * triTurn ys (7, 11, 10) = D 11 10 + D 10 7 + D 7 11 := ht 7 11 10 (by decide) (by decide) (by decide)
  have t11 : ring * triTurn ys (7, 8, 11) = D 8 11 + D 11 7 + D 7 8 := ht 7 8 11 (by decide) (by decide) (by decide)
  have t12 : ring * triTurn ys (9, 10, 12) = D 10 12 + D 12 9 + D 9 10 := ht 9 10 12 (by decide) (by decide) (by decide)
  have t13 : ring * triTurn ys (10, 13, 12) = D 13 12 + D 12 10 + D 10 13 := ht 10 13 12 (by decide) (by decide) (by decide)
  have t14 : ring * triTurn ys (10, 11, 13) = D 11 13 + D 13 10 + D 10 11 := ht 10 11 13 (by decide) (by decide) (by decide)
  have t15 : ring * triTurn ys (12, 13, 14) = D 13 14 + D 14 12 + D 12 13 := ht 12 13 14 (by decide) (by decide) (by decide)
  have a0 := ha 1 5
  have a1 := ha 1 6
  have a2 := ha 5 6
  have a3 := ha 2 6
  have a4 := ha 2 7
  have a5 := ha 6 7
  have a6 := ha 3 7
  have a7 := ha 3 8
  have a8 := ha 7 8
  have a9 := ha 6 9
  have a10 := ha 6 10
  have a11 := ha 9 10
  have a12 := ha 7 10
  have a13 := ha 7 11
  have a14 := ha 10 11
  have a15 := ha 10 12
  have a16 := ha 10 13
  have a17 := ha 12 13
  rw [t0, t1, t2, t3, t4, t5, t6, t7, t8, t9, t10, t11, t12, t13, t14, t15]
  clear ht ha hl
  lia
/-- what the three parts of a place are: which is full, the hue told by the two others -/
structure Comps (s p a b d : Int) : Prop where
  a0 : 0 ≤ a
  a1 : a ≤ s
  b0 : 0 ≤ b
  b1 : b ≤ s
  d0 : 0 ≤ d
  d1 : d ≤ s
  one : (a = s ∧ b < s ∧ d < s ∧ (b = 0 ∨ d = 0) ∧ (2 * p = b - d ∨ 2 * p = 6 * s + b - d)) ∨ (b = s ∧ a < s ∧ d < s ∧ (a = 0 ∨ d = 0) ∧ 2 * p = 2 * s + d - a) ∨ (d = s ∧ a < s ∧ b < s ∧ (a = 0 ∨ b = 0) ∧ 2 * p = 4 * s + a - b)
noncomputable def compChk (s p a b d : Int) : Bool := decide ((0 ≤ a ∧ a ≤ s ∧ 0 ≤ b ∧ b ≤ s ∧ 0 ≤ d ∧ d ≤ s) ∧ ((a = s ∧ b < s ∧ d < s ∧ (b = 0 ∨ d = 0) ∧ (2 * p = b - d ∨ 2 * p = 6 * s + b - d)) ∨ (b = s ∧ a < s ∧ d < s ∧ (a = 0 ∨ d = 0) ∧ 2 * p = 2 * s + d - a) ∨ (d = s ∧ a < s ∧ b < s ∧ (a = 0 ∨ b = 0) ∧ 2 * p = 4 * s + a - b)))
noncomputable def compsOk (s : Int) (n : Nat) : Bool := (List.range n).all fun p : Nat => compChk s p (compOf s p 0) (compOf s p s) (compOf s p (2 * s))
theorem comps_at {s : Int} {n : Nat} (h : compsOk s n = true) {p : Int} (h0 : 0 ≤ p) (h1 : p < n) : Comps s p (compOf s p 0) (compOf s p s) (compOf s p (2 * s)) := by
  have h2 := List.all_eq_true.mp h p.toNat (List.mem_range.mpr (by lia))
  rw [show ((p.toNat : Nat) : Int) = p by lia] at h2
  obtain ⟨⟨a0, a1, b0, b1, d0, d1⟩, one⟩ := of_decide_eq_true h2
  exact ⟨a0, a1, b0, b1, d0, d1, one⟩
theorem comps_ok0 : compsOk 1 3 = true := by decide +kernel
theorem comps_ok1 : compsOk 3 9 = true := by decide +kernel
theorem comps_ok2 : compsOk 5 15 = true := by decide +kernel
theorem comps_ok3 : compsOk 7 21 = true := by decide +kernel
theorem comps_ok4 : compsOk 9 27 = true := by decide +kernel
theorem comps_ok5 : compsOk 11 33 = true := by decide +kernel
theorem comps_ok6 : compsOk 13 39 = true := by decide +kernel
theorem comps_ok7 : compsOk 15 45 = true := by decide +kernel
theorem comps_ok8 : compsOk 17 51 = true := by decide +kernel
theorem comps_ok9 : compsOk 19 57 = true := by decide +kernel
theorem comps_ok10 : compsOk 21 63 = true := by decide +kernel
theorem comps {c p : Int} (h0 : 0 ≤ c) (h1 : c ≤ 10) (hp : 0 ≤ p) (hp' : p < 3 * (2 * c + 1)) : Comps (2 * c + 1) p (compOf (2 * c + 1) p 0) (compOf (2 * c + 1) p (2 * c + 1)) (compOf (2 * c + 1) p (2 * (2 * c + 1))) := by
  rcases (by lia : c = 0 ∨ c = 1 ∨ c = 2 ∨ c = 3 ∨ c = 4 ∨ c = 5 ∨ c = 6 ∨ c = 7 ∨ c = 8 ∨ c = 9 ∨ c = 10) with rfl | rfl | rfl | rfl | rfl | rfl | rfl | rfl | rfl | rfl | rfl
  · exact comps_at comps_ok0 hp hp'
  · exact comps_at comps_ok1 hp hp'
  · exact comps_at comps_ok2 hp hp'
  · exact comps_at comps_ok3 hp hp'
  · exact comps_at comps_ok4 hp hp'
  · exact comps_at comps_ok5 hp hp'
  · exact comps_at comps_ok6 hp hp'
  · exact comps_at comps_ok7 hp hp'
  · exact comps_at comps_ok8 hp hp'
  · exact comps_at comps_ok9 hp hp'
  · exact comps_at comps_ok10 hp hp'
theorem unit_le (side cell : Int) : spUnit side cell ≤ 4 := by
  unfold spUnit
  have := Int.fmod_lt_of_pos ((spN side cell).fdiv (3 * side)) (show (0 : Int) < 4 by decide)
  lia
theorem white_in {side : Int} (h : 1 ≤ side) (cell : Int) : 0 ≤ spWhite side cell ∧ spWhite side cell ≤ 40 := by
  have h1 : 0 ≤ spN side cell := Int.fmod_nonneg_of_pos _ (by lia)
  have h2 : spN side cell < 164 * (3 * side) := Int.fmod_lt_of_pos _ (by lia)
  unfold spWhite
  rw [Int.fdiv_eq_ediv_of_nonneg _ (show 0 ≤ 4 * (3 * side) by lia)]
  refine ⟨Int.ediv_nonneg h1 (by lia), ?_⟩
  have : spN side cell / (4 * (3 * side)) < 41 := Int.ediv_lt_of_lt_mul (by lia) (by lia)
  lia
theorem J_eq : ((2 ^ 1067 : Nat) : Int) = 2 ^ 43 * EE := by
  rw [EE_nat, show (2 : Nat) ^ 1067 = 2 ^ 43 * 2 ^ 1024 by rw [← Nat.pow_add]]
  exact Int.natCast_mul _ _
theorem mulJ (n : Int) : n * ((2 ^ 1067 : Nat) : Int) = n * (2 ^ 43 * EE) := by rw [J_eq]
theorem iq128 {n : Int} (h0 : 0 ≤ n) (h1 : n ≤ 256) : Fl (iq n 128) ∧ Float64.val (iq n 128) = n * (2 ^ 43 * EE) := by
  have h := iq_exact (a := n.toNat) (d := 128) (c := 1067) (by decide) (by lia) (by decide) (by rw [show (128 : Nat) = 2 ^ 7 by rfl, ← Nat.pow_add])
  rw [show ((n.toNat : Nat) : Int) = n by lia, mulJ] at h
  exact h
theorem iq_sub {a b : Int} (a0 : 0 ≤ a) (a1 : a ≤ 256) (b0 : 0 ≤ b) (b1 : b ≤ 256) : Fl (Float64.sub (iq a 128) (iq b 128)) ∧ Float64.val (Float64.sub (iq a 128) (iq b 128)) = (a - b) * (2 ^ 43 * EE) := by
  have ha := iq128 a0 a1
  have hb := iq128 b0 b1
  rw [← mulJ]
  exact sub_exact (n := a - b) 1067 (by decide) ha.1 hb.1 (by lia) (by rw [ha.2, hb.2, mulJ, Int.sub_mul])
theorem iq_add {a b : Int} (a0 : 0 ≤ a) (a1 : a ≤ 256) (b0 : 0 ≤ b) (b1 : b ≤ 256) : Fl (Float64.add (iq a 128) (iq b 128)) ∧ Float64.val (Float64.add (iq a 128) (iq b 128)) = (a + b) * (2 ^ 43 * EE) := by
  have ha := iq128 a0 a1
  have hb := iq128 b0 b1
  rw [← mulJ]
  exact add_exact (n := a + b) 1067 (by decide) ha.1 hb.1 (by lia) (by rw [ha.2, hb.2, mulJ, Int.add_mul])
theorem two_valE : Float64.val 4611686018427387904 = 256 * (2 ^ 43 * EE) := by rw [two_val.2, one_EE_nat]; lia
theorem iq_two {a b : Int} (a0 : 0 ≤ a) (a1 : a ≤ 256) (b0 : 0 ≤ b) (b1 : b ≤ 256) : Fl (Float64.sub (Float64.sub 4611686018427387904 (iq a 128)) (iq b 128)) ∧ Float64.val (Float64.sub (Float64.sub 4611686018427387904 (iq a 128)) (iq b 128)) = (256 - a - b) * (2 ^ 43 * EE) := by
  have ha := iq128 a0 a1
  have hb := iq128 b0 b1
  have h1 := sub_exact (n := 256 - a) 1067 (by decide) two_val.1 ha.1 (by lia) (by rw [two_valE, ha.2, mulJ, Int.sub_mul])
  rw [mulJ] at h1
  rw [← mulJ]
  exact sub_exact (n := 256 - a - b) 1067 (by decide) h1.1 hb.1 (by lia) (by rw [h1.2, hb.2, mulJ, Int.sub_mul (256 - a)])
theorem div_ratio {x y : UInt64} {N D J : Int} (hx : Fl x) (hy : Fl y) (hJ : 0 < J) (vx : Float64.val x = N * J) (vy : Float64.val y = D * J) (hD : 0 < D) (hN : 0 ≤ N) (hND : N ≤ 8 * D) :
    Fl (Float64.div x y) ∧ -(D * EE) ≤ D * Float64.val (Float64.div x y) - N * (2 ^ 50 * EE) ∧ D * Float64.val (Float64.div x y) - N * (2 ^ 50 * EE) ≤ D * EE := by
  have h1 : 0 < Float64.val y := by rw [vy]; exact Int.mul_pos hD hJ
  have h2 : 0 ≤ Float64.val x := by rw [vx]; exact Int.mul_nonneg hN (Int.le_of_lt hJ)
  have h3 : Float64.val x ≤ 8 * Float64.val y := by
    rw [vx, vy, ← Int.mul_assoc]
    exact Int.mul_le_mul_of_nonneg_right hND (Int.le_of_lt hJ)
  have h := div_near hx hy h1 (by lia)
  refine ⟨h.1, ?_, ?_⟩
  · refine Int.le_of_mul_le_mul_left (a := J) ?_ hJ
    have := h.2.1
    rw [vx, vy] at this
    rw [Int.mul_sub, Int.mul_neg]
    rw [show J * (D * EE) = D * J * EE by ac_rfl, show J * (D * Float64.val (Float64.div x y)) = D * J * Float64.val (Float64.div x y) by ac_rfl, show J * (N * (2 ^ 50 * EE)) = N * J * (2 ^ 50 * EE) by ac_rfl]
    exact this
  · refine Int.le_of_mul_le_mul_left (a := J) ?_ hJ
    have := h.2.2
    rw [vx, vy] at this
    rw [Int.mul_sub]
    rw [show J * (D * EE) = D * J * EE by ac_rfl, show J * (D * Float64.val (Float64.div x y)) = D * J * Float64.val (Float64.div x y) by ac_rfl, show J * (N * (2 ^ 50 * EE)) = N * J * (2 ^ 50 * EE) by ac_rfl]
    exact this
theorem sat_round {x y : UInt64} {N D : Int} (hx : Fl x) (hy : Fl y) (vx : Float64.val x = N * (2 ^ 43 * EE)) (vy : Float64.val y = D * (2 ^ 43 * EE)) (hN : 0 < N) (hND : N ≤ D) (hN1 : N ≤ 127) (hD1 : D ≤ 256) :
    Float64.isFinite (Float64.mul (Float64.ofInt (1048576 * D)) (Float64.div x y)) = true ∧ toInt Float64.nearestOf (Float64.mul (Float64.ofInt (1048576 * D)) (Float64.div x y)) = 1048576 * N := by
  have hE := EE_pos
  obtain ⟨f, h1, h2⟩ := div_ratio hx hy (show 0 < 2 ^ 43 * EE by lia) vx vy (by lia) (by lia) (by lia)
  have e1 : ((2 ^ 53 * 2 ^ 1048 : Nat) : Int) = 2 ^ 77 * EE := by
    rw [EE_nat, show (2 : Nat) ^ 53 * 2 ^ 1048 = 2 ^ 77 * 2 ^ 1024 by rw [← Nat.pow_add]]
    norm_cast
  have s := mulInt_near (n := 1048576 * D) (by lia) f
  generalize 2 ^ 53 * 2 ^ 1048 = B at *
  rw [Int.mul_assoc] at s
  have dE := mulE hD1
  have nE := mulE hN1
  have nE0 := mulE (show 1 ≤ N by lia)
  have x1 : N * (2 ^ 50 * EE) = 2 ^ 50 * (N * EE) := by rw [Int.mul_left_comm]
  rw [x1] at h1 h2
  have x2 : 1048576 * N * (2 ^ 50 * EE) = 1048576 * (2 ^ 50 * (N * EE)) := by rw [Int.mul_assoc, x1]
  generalize D * Float64.val (Float64.div x y) = V at *
  obtain ⟨s1, s2, s3⟩ := s (by lia)
  refine ⟨fl_finite s1, nearest_of s1 ?_ ?_⟩
  · rw [x2]; lia
  · rw [x2]; lia
theorem six_val : Fl 4618441417868443648 ∧ Float64.val 4618441417868443648 = 6 * (2 ^ 50 * EE) := by
  have h : Float64.decode 4618441417868443648 = .fin false (3 * 2 ^ 51) (-50) := by with_unfolding_all rfl
  refine ⟨⟨_, _, _, h⟩, ?_⟩
  rw [Float64.val_eq h, ← one_EE_nat]
  show ((3 * 2 ^ 51 * 2 ^ 1024 : Nat) : Int) = _
  have e : (3 : Nat) * 2 ^ 51 * 2 ^ 1024 = 6 * 2 ^ 1074 := by
    rw [Nat.mul_assoc, ← Nat.pow_add]
  rw [e]
  exact Int.natCast_mul _ _
theorem four_val : Fl 4616189618054758400 ∧ Float64.val 4616189618054758400 = 4 * (2 ^ 50 * EE) := by
  have h : Float64.decode 4616189618054758400 = .fin false (2 ^ 52) (-50) := by with_unfolding_all rfl
  refine ⟨⟨_, _, _, h⟩, ?_⟩
  rw [Float64.val_eq h, ← one_EE_nat]
  show ((2 ^ 52 * 2 ^ 1024 : Nat) : Int) = _
  have e : (2 : Nat) ^ 52 * 2 ^ 1024 = 4 * 2 ^ 1074 := by rw [← Nat.pow_add]
  rw [e]
  exact Int.natCast_mul _ _
theorem two_valK : Float64.val 4611686018427387904 = 2 * (2 ^ 50 * EE) := by rw [two_val.2, one_EE_nat]
theorem six_near {x : UInt64} (hx : Fl x) (h : (Float64.val x).natAbs ≤ 8 * (6 * (2 ^ 50 * EE)).natAbs) : Fl (Float64.div x 4618441417868443648) ∧ -(6 * EE) ≤ 6 * Float64.val (Float64.div x 4618441417868443648) - Float64.val x ∧ 6 * Float64.val (Float64.div x 4618441417868443648) - Float64.val x ≤ 6 * EE ∧ (Float64.val x = 0 → Float64.val (Float64.div x 4618441417868443648) = 0) := by
  have hE := EE_pos
  have hy : 0 < Float64.val 4618441417868443648 := by rw [six_val.2]; lia
  have hd := div_near hx six_val.1 hy (by rw [six_val.2]; exact h)
  rw [six_val.2] at hd
  have hK : 0 < 2 ^ 50 * EE := by lia
  refine ⟨hd.1, ?_, ?_, fun h0 => ?_⟩
  · refine Int.le_of_mul_le_mul_left (a := 2 ^ 50 * EE) ?_ hK
    rw [Int.mul_neg, Int.mul_sub]
    have := hd.2.1
    rw [show 2 ^ 50 * EE * (6 * EE) = 6 * (2 ^ 50 * EE) * EE by ac_rfl, show 2 ^ 50 * EE * (6 * Float64.val (Float64.div x 4618441417868443648)) = 6 * (2 ^ 50 * EE) * Float64.val (Float64.div x 4618441417868443648) by ac_rfl, Int.mul_comm (2 ^ 50 * EE) (Float64.val x)]
    exact this
  · refine Int.le_of_mul_le_mul_left (a := 2 ^ 50 * EE) ?_ hK
    rw [Int.mul_sub]
    have := hd.2.2
    rw [show 2 ^ 50 * EE * (6 * EE) = 6 * (2 ^ 50 * EE) * EE by ac_rfl, show 2 ^ 50 * EE * (6 * Float64.val (Float64.div x 4618441417868443648)) = 6 * (2 ^ 50 * EE) * Float64.val (Float64.div x 4618441417868443648) by ac_rfl, Int.mul_comm (2 ^ 50 * EE) (Float64.val x)]
    exact this
  · have he := div_exact (n := 0) 0 (by decide) hx six_val.1 hy (by decide) (by lia) (by rw [h0]; simp)
    have := he.2.1
    lia
theorem lin1 {SE VR VY VX PE NE T : Int} (x1 : -(8 * SE) ≤ VX - 2 ^ 50 * NE) (x2 : VX - 2 ^ 50 * NE ≤ 8 * SE) (d1 : -(6 * SE) ≤ 6 * VY - VX) (d2 : 6 * VY - VX ≤ 6 * SE) (n3 : (T = 0 ∧ NE = 2 * PE) ∨ (T = 2 ^ 50 * SE ∧ NE = 2 * PE - 6 * SE)) (k1 : -(3 * SE) ≤ VR - (VY + T)) (k2 : VR - (VY + T) ≤ 3 * SE) (hS : 0 ≤ SE) :
    -(300 * SE) ≤ 3 * VR - 2 ^ 50 * PE ∧ 3 * VR - 2 ^ 50 * PE ≤ 300 * SE := by
  rcases n3 with ⟨rfl, rfl⟩ | ⟨rfl, rfl⟩ <;> lia
/-- from the raw hue (times the side) to the hue -/
theorem hue_near {S p N : Int} {x : UInt64} (h0 : 1 ≤ S) (h1 : S ≤ 21) (hp : 0 ≤ p) (hp' : p < 3 * S) (hx : Fl x) (hz : p = 0 → Float64.val x = 0)
    (x1 : -(8 * (S * EE)) ≤ S * Float64.val x - 2 ^ 50 * (N * EE)) (x2 : S * Float64.val x - 2 ^ 50 * (N * EE) ≤ 8 * (S * EE)) (hN : N = 2 * p ∨ N = 2 * p - 6 * S) :
    HueAt (3 * S) p (Float64.divmod (Float64.div x 4618441417868443648) 4607182418800017408).snd := by
  have hE := EE_pos
  have key : ∀ {X Y : Int}, S * X ≤ S * Y → X ≤ Y := fun h => Int.le_of_mul_le_mul_left h (by lia)
  have mul : ∀ {X Y : Int}, X ≤ Y → S * X ≤ S * Y := fun h => Int.mul_le_mul_of_nonneg_left h (by lia)
  have e1 : N * EE = 2 * (p * EE) ∨ N * EE = 2 * (p * EE) - 6 * (S * EE) := by
    rcases hN with h | h
    · left; rw [h, Int.mul_assoc]
    · right; rw [h, Int.sub_mul, Int.mul_assoc, Int.mul_assoc]
  have p0 := mulE hp
  have p1 := mulE (show p ≤ 3 * S - 1 by lia)
  have s0 := mulE h0
  have s1 := mulE h1
  rw [Int.zero_mul] at p0
  rw [Int.sub_mul, Int.mul_assoc, Int.one_mul] at p1
  rw [Int.one_mul] at s0
  have pz : p = 0 ∨ 1 * EE ≤ p * EE := (by lia : p = 0 ∨ 1 ≤ p).imp id mulE
  have pz' : p = 0 → p * EE = 0 := fun h => by rw [h, Int.zero_mul]
  have d := six_near hx
  have hb : -(7 * (2 ^ 50 * EE)) ≤ Float64.val x ∧ Float64.val x ≤ 7 * (2 ^ 50 * EE) := by
    refine ⟨key ?_, key ?_⟩ <;> simp only [Int.mul_neg, Int.mul_left_comm S] <;> lia
  obtain ⟨f, d1, d2, d3⟩ := d (by lia)
  obtain ⟨g, m0, m1⟩ := mod_one f
  generalize Float64.div x 4618441417868443648 = y at *
  generalize (Float64.divmod y 4607182418800017408).snd = r at *
  have d1 := mul d1
  have d2 := mul d2
  simp only [Int.mul_sub, Int.mul_neg, Int.mul_left_comm S] at d1 d2
  have goal : -(300 * (S * EE)) ≤ 3 * (S * Float64.val r) - 2 ^ 50 * (p * EE) ∧ 3 * (S * Float64.val r) - 2 ^ 50 * (p * EE) ≤ 300 * (S * EE) := by
    rcases pz with h | h
    · rw [m0 (d3 (hz h)), pz' h, Int.mul_zero]
      lia
    · have m : ∃ n : Int, 2 * EE ≤ Float64.val y + n * (2 ^ 50 * EE) ∧ Float64.val y + n * (2 ^ 50 * EE) ≤ 2 ^ 50 * EE - 2 * EE ∧ ((S * (n * (2 ^ 50 * EE)) = 0 ∧ N * EE = 2 * (p * EE)) ∨ (S * (n * (2 ^ 50 * EE)) = 2 ^ 50 * (S * EE) ∧ N * EE = 2 * (p * EE) - 6 * (S * EE))) := by
        rcases e1 with e1 | e1
        · refine ⟨0, key ?_, key ?_, .inl ⟨by rw [Int.zero_mul, Int.mul_zero], e1⟩⟩ <;> simp only [Int.mul_sub, Int.zero_mul, Int.add_zero, Int.mul_left_comm S] <;> lia
        · refine ⟨1, key ?_, key ?_, .inr ⟨by rw [Int.one_mul, Int.mul_left_comm S], e1⟩⟩ <;> simp only [Int.mul_add, Int.mul_sub, Int.one_mul, Int.mul_left_comm S] <;> lia
      obtain ⟨n, n1, n2, n3⟩ := m
      obtain ⟨k1, k2⟩ := m1 n n1 n2
      have k1 := mul k1
      have k2 := mul k2
      simp only [Int.mul_add, Int.mul_sub, Int.mul_neg, Int.mul_left_comm S 3 EE] at k1 k2
      exact lin1 x1 x2 d1 d2 n3 k1 k2 (by clear n1 n2 k1 k2 n3; lia)
  have e2 : 3 * S * (100 * EE) = 300 * (S * EE) := by rw [Int.mul_assoc, Int.mul_left_comm S]; lia
  refine ⟨g, ?_, ?_⟩ <;> rw [e2, Int.mul_assoc]
  · exact goal.1
  · exact goal.2
theorem iq_cmp_eq {a b : Int} (a0 : 0 ≤ a) (a1 : a ≤ 256) (b0 : 0 ≤ b) (b1 : b ≤ 256) : (Float64.cmp (iq a 128) (iq b 128) == some .eq) = decide (a = b) := by
  have ha := iq128 a0 a1
  have hb := iq128 b0 b1
  have hE := EE_pos
  rw [cmp_eq ha.1 hb.1, ha.2, hb.2]
  refine decide_eq_decide.mpr ⟨fun h => ?_, fun h => by rw [h]⟩
  exact Int.eq_of_mul_eq_mul_right (show (2 ^ 43 * EE : Int) ≠ 0 by lia) h
theorem iq_cmp_lt {a b : Int} (a0 : 0 ≤ a) (a1 : a ≤ 256) (b0 : 0 ≤ b) (b1 : b ≤ 256) : (Float64.cmp (iq a 128) (iq b 128) == some .lt) = decide (a < b) := by
  have ha := iq128 a0 a1
  have hb := iq128 b0 b1
  have hE := EE_pos
  rw [cmp_lt ha.1 hb.1, ha.2, hb.2]
  refine decide_eq_decide.mpr ⟨fun h => Int.lt_of_mul_lt_mul_right h (by lia), fun h => Int.mul_lt_mul_of_pos_right h (by lia)⟩
/-- how far a part lies below the full one, as a share of the spread -/
theorem rho {w u s a : Int} (hu : 0 < u) (hs : 0 < s) (w0 : 0 ≤ w) (w1 : w + u * s ≤ 256) (a0 : 0 ≤ a) (a1 : a ≤ s) :
    Fl (Float64.div (Float64.sub (iq (w + u * s) 128) (iq (w + u * a) 128)) (Float64.sub (iq (w + u * s) 128) (iq w 128))) ∧
    -(s * EE) ≤ s * Float64.val (Float64.div (Float64.sub (iq (w + u * s) 128) (iq (w + u * a) 128)) (Float64.sub (iq (w + u * s) 128) (iq w 128))) - 2 ^ 50 * (s * EE - a * EE) ∧
    s * Float64.val (Float64.div (Float64.sub (iq (w + u * s) 128) (iq (w + u * a) 128)) (Float64.sub (iq (w + u * s) 128) (iq w 128))) - 2 ^ 50 * (s * EE - a * EE) ≤ s * EE := by
  have hE := EE_pos
  have h1 := Int.mul_nonneg (Int.le_of_lt hu) a0
  have h2 := Int.mul_le_mul_of_nonneg_left a1 (Int.le_of_lt hu)
  have h3 := Int.mul_pos hu hs
  have n := iq_sub (a := w + u * s) (b := w + u * a) (by lia) (by lia) (by lia) (by lia)
  have d := iq_sub (a := w + u * s) (b := w) (by lia) (by lia) (by lia) (by lia)
  have r := div_ratio (N := s - a) (D := s) (J := u * (2 ^ 43 * EE)) n.1 d.1 (Int.mul_pos hu (by lia)) (by
    rw [n.2, show w + u * s - (w + u * a) = (s - a) * u by rw [Int.sub_mul, Int.mul_comm s, Int.mul_comm a]; lia, Int.mul_assoc]) (by
    rw [d.2, show w + u * s - w = s * u by rw [Int.mul_comm s]; lia, Int.mul_assoc]) hs (by lia) (by lia)
  rw [show (s - a) * (2 ^ 50 * EE) = 2 ^ 50 * (s * EE - a * EE) by rw [Int.mul_left_comm, Int.sub_mul]] at r
  exact r
theorem raw_near {S p u w a b d : Int} (h0 : 1 ≤ S) (h1 : S ≤ 21) (hp : 0 ≤ p) (hp' : p < 3 * S) (hu : 0 < u) (w0 : 0 ≤ w) (w1 : w + u * S ≤ 128) (C : Comps S p a b d) :
    HueAt (3 * S) p (hueOf (iq (w + u * a) 128) (iq (w + u * b) 128) (iq (w + u * d) 128) (iq (w + u * S) 128) (iq w 128)) := by
  have hE := EE_pos
  have key : ∀ {X Y : Int}, S * X ≤ S * Y → X ≤ Y := fun h => Int.le_of_mul_le_mul_left h (by lia)
  have mul : ∀ {X Y : Int}, X ≤ Y → S * X ≤ S * Y := fun h => Int.mul_le_mul_of_nonneg_left h (by lia)
  have hus := Int.mul_pos hu (show 0 < S by lia)
  have ra := rho hu (show 0 < S by lia) w0 (show w + u * S ≤ 256 by lia) C.a0 C.a1
  have rb := rho hu (show 0 < S by lia) w0 (show w + u * S ≤ 256 by lia) C.b0 C.b1
  have rd := rho hu (show 0 < S by lia) w0 (show w + u * S ≤ 256 by lia) C.d0 C.d1
  have ua0 := Int.mul_nonneg (Int.le_of_lt hu) C.a0
  have ub0 := Int.mul_nonneg (Int.le_of_lt hu) C.b0
  have ua1 := Int.mul_le_mul_of_nonneg_left C.a1 (Int.le_of_lt hu)
  have ub1 := Int.mul_le_mul_of_nonneg_left C.b1 (Int.le_of_lt hu)
  have A0 : 0 ≤ w + u * a := by lia
  have A1 : w + u * a ≤ 256 := by lia
  have B0 : 0 ≤ w + u * b := by lia
  have B1 : w + u * b ≤ 256 := by lia
  have S0 : 0 ≤ w + u * S := by lia
  have S1 : w + u * S ≤ 256 := by lia
  have P : 0 < S := by lia
  have ea := iq_cmp_eq (a := w + u * a) (b := w + u * S) A0 A1 S0 S1
  have eb := iq_cmp_eq (a := w + u * b) (b := w + u * S) B0 B1 S0 S1
  have ka : decide (w + u * a = w + u * S) = decide (a = S) := decide_eq_decide.mpr ⟨fun h => Int.eq_of_mul_eq_mul_left (show u ≠ 0 by lia) (by lia), fun h => by rw [h]⟩
  have kb : decide (w + u * b = w + u * S) = decide (b = S) := decide_eq_decide.mpr ⟨fun h => Int.eq_of_mul_eq_mul_left (show u ≠ 0 by lia) (by lia), fun h => by rw [h]⟩
  rw [ka] at ea
  rw [kb] at eb
  have e1 : ((2 ^ 53 * 2 ^ 1024 : Nat) : Int) = 2 ^ 53 * EE := by rw [EE_nat]; norm_cast
  unfold hueOf hueRaw
  rw [ea, eb]
  have hsame : b = 0 → d = 0 → Float64.div (Float64.sub (iq (w + u * S) 128) (iq (w + u * b) 128)) (Float64.sub (iq (w + u * S) 128) (iq w 128)) = Float64.div (Float64.sub (iq (w + u * S) 128) (iq (w + u * d) 128)) (Float64.sub (iq (w + u * S) 128) (iq w 128)) := fun h h' => by rw [h, h']
  generalize Float64.div (Float64.sub (iq (w + u * S) 128) (iq (w + u * a) 128)) (Float64.sub (iq (w + u * S) 128) (iq w 128)) = ρa at *
  generalize Float64.div (Float64.sub (iq (w + u * S) 128) (iq (w + u * b) 128)) (Float64.sub (iq (w + u * S) 128) (iq w 128)) = ρb at *
  generalize Float64.div (Float64.sub (iq (w + u * S) 128) (iq (w + u * d) 128)) (Float64.sub (iq (w + u * S) 128) (iq w 128)) = ρd at *
  obtain ⟨fa, a2, a3⟩ := ra
  obtain ⟨fb, b2, b3⟩ := rb
  obtain ⟨fd, d2, d3⟩ := rd
  have range : ∀ (x : Int) (v : UInt64), 0 ≤ x → x ≤ S → -(S * EE) ≤ S * Float64.val v - 2 ^ 50 * (S * EE - x * EE) → S * Float64.val v - 2 ^ 50 * (S * EE - x * EE) ≤ S * EE → -EE ≤ Float64.val v ∧ Float64.val v ≤ 2 ^ 50 * EE + EE := fun x v x0 x1 l h => by
    have x0 := mulE x0
    have x1 := mulE x1
    rw [Int.zero_mul] at x0
    refine ⟨key ?_, key ?_⟩ <;> simp only [Int.mul_add, Int.mul_neg, Int.mul_left_comm S] <;> lia
  have ga := range a ρa C.a0 C.a1 a2 a3
  have gb := range b ρb C.b0 C.b1 b2 b3
  have gd := range d ρd C.d0 C.d1 d2 d3
  clear range ua0 ub0 ua1 ub1 ea eb ka kb
  have ca0 := C.a0
  have cb0 := C.b0
  have cd0 := C.d0
  rcases C.one with ⟨ha, hb, hd, hbd, hpp⟩ | ⟨hb, ha, hd, had, hpp⟩ | ⟨hd, ha, hb, hab, hpp⟩
  · rw [if_pos (by simpa using ha)]
    have s := sub_near 1024 (by decide) fd fb
    rw [← EE_nat] at s
    generalize 2 ^ 53 * 2 ^ 1024 = B at *
    obtain ⟨f, s1, s2, s3⟩ := s (by lia)
    have s1 := mul s1
    have s2 := mul s2
    simp only [Int.mul_sub, Int.mul_neg] at s1 s2
    refine hue_near (N := b - d) h0 h1 hp hp' f (fun hz => s3 ?_) ?_ ?_ (by lia)
    · rw [hsame (by lia) (by lia)]; lia
    · rw [Int.sub_mul]; lia
    · rw [Int.sub_mul]; lia
  · rw [if_neg (by simp; lia), if_pos (by simpa using hb)]
    have s := add_near 1024 (by decide) two_val.1 fa
    have s' := fun h => sub_near (x := Float64.add 4611686018427387904 ρa) 1024 (by decide) h fd
    rw [two_valK, ← EE_nat] at s
    rw [← EE_nat] at s'
    generalize 2 ^ 53 * 2 ^ 1024 = B at *
    obtain ⟨f, s1, s2, _⟩ := s (by lia)
    obtain ⟨f', s3, s4, _⟩ := s' f (by lia)
    have s1 := mul s1
    have s2 := mul s2
    have s3 := mul s3
    have s4 := mul s4
    simp only [Int.mul_add, Int.mul_sub, Int.mul_neg, Int.mul_left_comm S 2, Int.mul_left_comm S (2 ^ 50)] at s1 s2 s3 s4
    have eN : (2 * S + d - a) * EE = 2 * (S * EE) + d * EE - a * EE := by rw [Int.sub_mul, Int.add_mul, Int.mul_assoc]
    refine hue_near (N := 2 * S + d - a) h0 h1 hp hp' f' (fun hz => by lia) ?_ ?_ (by lia)
    · rw [eN]; lia
    · rw [eN]; lia
  · rw [if_neg (by simp; lia), if_neg (by simp; lia)]
    have s := add_near 1024 (by decide) four_val.1 fb
    have s' := fun h => sub_near (x := Float64.add 4616189618054758400 ρb) 1024 (by decide) h fa
    rw [four_val.2, ← EE_nat] at s
    rw [← EE_nat] at s'
    generalize 2 ^ 53 * 2 ^ 1024 = B at *
    obtain ⟨f, s1, s2, _⟩ := s (by lia)
    obtain ⟨f', s3, s4, _⟩ := s' f (by lia)
    have s1 := mul s1
    have s2 := mul s2
    have s3 := mul s3
    have s4 := mul s4
    simp only [Int.mul_add, Int.mul_sub, Int.mul_neg, Int.mul_left_comm S 4, Int.mul_left_comm S (2 ^ 50)] at s1 s2 s3 s4
    have eN : (4 * S + a - b) * EE = 4 * (S * EE) + a * EE - b * EE := by rw [Int.sub_mul, Int.add_mul, Int.mul_assoc]
    refine hue_near (N := 4 * S + a - b) h0 h1 hp hp' f' (fun hz => by lia) ?_ ?_ (by lia)
    · rw [eN]; lia
    · rw [eN]; lia
theorem hue_round {side p : Int} {x : UInt64} (s0 : 1 ≤ side) (s1 : side ≤ 21) (p0 : 0 ≤ p) (p1 : p < 3 * side) (H : HueAt (3 * side) p x) :
    Float64.isFinite (Float64.mul (Float64.ofInt (1048576 * 3 * side)) x) = true ∧ toInt Float64.nearestOf (Float64.mul (Float64.ofInt (1048576 * 3 * side)) x) = 1048576 * p := by
  have hE := EE_pos
  have e1 : ((2 ^ 53 * 2 ^ 1048 : Nat) : Int) = 2 ^ 77 * EE := by
    rw [EE_nat, show (2 : Nat) ^ 53 * 2 ^ 1048 = 2 ^ 77 * 2 ^ 1024 by rw [← Nat.pow_add]]
    norm_cast
  have s := mulInt_near (n := 1048576 * 3 * side) (by omega) H.fl
  generalize 2 ^ 53 * 2 ^ 1048 = B at *
  have e2 : 1048576 * 3 * side * Float64.val x = 1048576 * (3 * side * Float64.val x) := by rw [show 1048576 * 3 * side = 1048576 * (3 * side) by omega, Int.mul_assoc]
  rw [e2] at s
  have l := H.lo
  have h := H.hi
  have sE := mulE (show 3 * side ≤ 63 by omega)
  have sE0 := mulE (show 0 ≤ 3 * side by omega)
  have pE := mulE (show p ≤ 62 by omega)
  have pE0 := mulE p0
  rw [Int.mul_left_comm (3 * side) 100] at l h
  have x2 : 1048576 * p * (2 ^ 50 * EE) = 1048576 * (2 ^ 50 * (p * EE)) := by rw [Int.mul_assoc, Int.mul_left_comm p]
  generalize 3 * side * Float64.val x = V at *
  generalize 3 * side * EE = SE at *
  generalize p * EE = PE at *
  obtain ⟨s1, s2, s3⟩ := s (by omega)
  refine ⟨fl_finite s1, nearest_of s1 ?_ ?_⟩
  · rw [x2]; omega
  · rw [x2]; omega
theorem half_valE : Float64.val 4602678819172646912 = 64 * (2 ^ 43 * EE) := by rw [half_val.2]; omega
theorem iq_if {c : Prop} [Decidable c] (x y : Int) : (if c then iq x 128 else iq y 128) = iq (if c then x else y) 128 := by split <;> rfl
theorem max3 (r g b : Int) : (if r < g then (if g < b then b else g) else (if r < b then b else r)) = max r (max g b) := by
  rw [Int.max_def, Int.max_def]
  (repeat' split) <;> omega
theorem min3 (r g b : Int) : (if g < r then (if b < g then b else g) else (if b < r then b else r)) = min r (min g b) := by
  rw [Int.min_def, Int.min_def]
  (repeat' split) <;> omega
theorem good_of {side : Int} {x : Spot} (s0 : 1 ≤ side) (s1 : side ≤ 21) (p0 : 0 ≤ x.place) (p1 : x.place < 3 * side) (m0 : 0 ≤ spm x) (M1 : spM x ≤ 127) (lt : spm x < spM x) (H : HueAt (3 * side) x.place (hueF x)) : GoodSpot side x := by
  have hE := EE_pos
  have hr : spm x ≤ x.r ∧ spm x ≤ x.g ∧ spm x ≤ x.b ∧ x.r ≤ spM x ∧ x.g ≤ spM x ∧ x.b ≤ spM x := by unfold spm spM; omega
  have M0 : 0 ≤ spM x := by omega
  have M2 : spM x ≤ 256 := by omega
  have m2 : spm x ≤ 256 := by omega
  have r0 : 0 ≤ x.r := by omega
  have r2 : x.r ≤ 256 := by omega
  have g0 : 0 ≤ x.g := by omega
  have g2 : x.g ≤ 256 := by omega
  have b0 : 0 ≤ x.b := by omega
  have b2 : x.b ≤ 256 := by omega
  have iM := iq128 (n := spM x) M0 M2
  have im := iq128 (n := spm x) m0 m2
  have hsub := iq_sub (a := spM x) (b := spm x) M0 M2 m0 m2
  have hadd := iq_add (a := spM x) (b := spm x) M0 M2 m0 m2
  have htwo := iq_two (a := spM x) (b := spm x) M0 M2 m0 m2
  have c1 := iq_cmp_lt (a := x.r) (b := x.g) r0 r2 g0 g2
  have c2 := iq_cmp_lt (a := x.g) (b := x.b) g0 g2 b0 b2
  have c3 := iq_cmp_lt (a := x.r) (b := x.b) r0 r2 b0 b2
  have c1' := iq_cmp_lt (a := x.g) (b := x.r) g0 g2 r0 r2
  have c2' := iq_cmp_lt (a := x.b) (b := x.g) b0 b2 g0 g2
  have c3' := iq_cmp_lt (a := x.b) (b := x.r) b0 b2 r0 r2
  have posJ : ∀ n : Int, 0 < n → n * (2 ^ 43 * EE) ≠ 0 := fun n h => Int.ne_of_gt (Int.mul_pos h (by omega))
  have h2 := hue_round s0 s1 p0 p1 H
  have sv := sat_round hsub.1 iM.1 hsub.2 iM.2 (by omega) (by omega) (by omega) (by omega)
  have i256 := iq_exact (a := (spM x + spm x).toNat) (d := 256) (c := 1066) (by decide) (by omega) (by decide) (by rw [show (256 : Nat) = 2 ^ 8 by rfl, ← Nat.pow_add])
  rw [show (((spM x + spm x).toNat : Nat) : Int) = spM x + spm x by omega] at i256
  change Fl (iq (spM x + spm x) 256) ∧ Float64.val (iq (spM x + spm x) 256) = _ at i256
  have hp2 : 0 < Float64.val 4611686018427387904 := by rw [two_valE]; omega
  have hpa : 0 < Float64.val (Float64.add (iq (spM x) 128) (iq (spm x) 128)) := by rw [hadd.2]; exact Int.mul_pos (by omega) (by omega)
  have hhalf := div_exact (n := (spM x + spm x).toNat) 1066 (by decide) hadd.1 two_val.1 hp2 (by omega) (by omega) (by
    rw [hadd.2, two_val.2, ← mulJ, Int.natAbs_mul, Int.natAbs_mul, Int.natAbs_natCast, Int.natAbs_natCast, show (spM x + spm x).natAbs = (spM x + spm x).toNat by omega, show (2 : Int).natAbs = 2 by rfl, show (2 : Nat) ^ 1067 = 2 * 2 ^ 1066 by rw [← Nat.pow_succ']]
    ac_rfl)
  have hl : Float64.val (Float64.div (Float64.add (iq (spM x) 128) (iq (spm x) 128)) 4611686018427387904) = (spM x + spm x) * ((2 ^ 1066 : Nat) : Int) := by
    have h3 := hhalf.2.2 hpa
    have h4 := hhalf.2.1
    have e3 : (((spM x + spm x).toNat * 2 ^ 1066 : Nat) : Int) = (spM x + spm x) * ((2 ^ 1066 : Nat) : Int) := by rw [Int.natCast_mul, show (((spM x + spm x).toNat : Nat) : Int) = spM x + spm x by omega]
    rw [← e3]
    omega
  have hL : ((2 ^ 1066 : Nat) : Int) * 2 = 2 ^ 43 * EE := by rw [← J_eq, show (2 : Nat) ^ 1067 = 2 ^ 1066 * 2 by rw [← Nat.pow_succ]]; exact (Int.natCast_mul _ _).symm
  have hsat : (Float64.cmp (Float64.div (Float64.add (iq (spM x) 128) (iq (spm x) 128)) 4611686018427387904) 4602678819172646912 == some .lt || Float64.cmp (Float64.div (Float64.add (iq (spM x) 128) (iq (spm x) 128)) 4611686018427387904) 4602678819172646912 == some .eq) = decide (spM x + spm x ≤ 128) := by
    rw [cmp_lt hhalf.1 half_val.1, cmp_eq hhalf.1 half_val.1, hl, half_valE]
    have hL0 : 0 < ((2 ^ 1066 : Nat) : Int) := by omega
    generalize ((2 ^ 1066 : Nat) : Int) = G at *
    rw [show (64 : Int) * (2 ^ 43 * EE) = 128 * G by omega, Bool.eq_iff_iff]
    simp only [Bool.or_eq_true, decide_eq_true_eq]
    constructor
    · intro h
      have : (spM x + spm x) * G ≤ 128 * G := by omega
      exact Int.le_of_mul_le_mul_right this hL0
    · intro h
      have : (spM x + spm x) * G ≤ 128 * G := Int.mul_le_mul_of_nonneg_right h (Int.le_of_lt hL0)
      omega
  have svl : Float64.isFinite (Float64.mul (Float64.ofInt (1048576 * (if 256 - spM x - spm x < spM x + spm x then 256 - spM x - spm x else spM x + spm x))) (satOf (iq (spM x) 128) (iq (spm x) 128))) = true ∧ toInt Float64.nearestOf (Float64.mul (Float64.ofInt (1048576 * (if 256 - spM x - spm x < spM x + spm x then 256 - spM x - spm x else spM x + spm x))) (satOf (iq (spM x) 128) (iq (spm x) 128))) = 1048576 * (spM x - spm x) := by
    unfold satOf
    rw [hsat]
    by_cases hc : spM x + spm x ≤ 128
    · rw [if_neg (by omega), if_pos (by simpa using hc)]
      exact sat_round hsub.1 hadd.1 hsub.2 hadd.2 (by omega) (by omega) (by omega) (by omega)
    · rw [if_pos (by omega), if_neg (by simpa using hc)]
      exact sat_round hsub.1 htwo.1 hsub.2 htwo.2 (by omega) (by omega) (by omega) (by omega)
  refine ⟨m0, by omega, ?_, ?_, ?_, ?_, ?_, ?_, ?_, ?_, sv.1, sv.2, ?_, svl.1, svl.2, h2.1, h2.2⟩
  · unfold fmax3
    simp only [c1, c2, c3, decide_eq_true_eq, iq_if]
    rw [max3]
    rfl
  · unfold fmin3
    simp only [c1', c2', c3', decide_eq_true_eq, iq_if]
    rw [min3]
    rfl
  · rw [iq_cmp_eq m0 m2 M0 M2]
    exact decide_eq_false (by omega)
  · rw [isZero_val hsub.1, hsub.2]
    simpa using posJ _ (by omega)
  · rw [isZero_val iM.1, iM.2]
    simpa using posJ _ (by omega)
  · rw [isZero_val hadd.1, hadd.2]
    simpa using posJ _ (by omega)
  · rw [isZero_val htwo.1, htwo.2]
    simpa using posJ _ (by omega)
  · have := iq_cmp_eq (a := spM x) (b := spM x) M0 M2 M0 M2
    rw [bne, this]
    simp
  · have := cmp_eq hhalf.1 i256.1
    rw [hl, i256.2] at this
    rw [bne, this]
    simp
theorem good_spot {c : Int} (h0 : 0 ≤ c) (h1 : c ≤ 10) (cell : Int) : GoodSpot (2 * c + 1) (spotOf (2 * c + 1) cell) ∧ HueAt (3 * (2 * c + 1)) (spPlace (2 * c + 1) cell) (hueF (spotOf (2 * c + 1) cell)) := by
  have hp := place_in (show 1 ≤ 2 * c + 1 by omega) cell
  have hw := white_in (show 1 ≤ 2 * c + 1 by omega) cell
  have hu := unit_pos (2 * c + 1) cell
  have hu4 := unit_le (2 * c + 1) cell
  have C := comps h0 h1 hp.1 hp.2
  have e : spotOf (2 * c + 1) cell = ⟨spPlace (2 * c + 1) cell, spWhite (2 * c + 1) cell + spUnit (2 * c + 1) cell * compOf (2 * c + 1) (spPlace (2 * c + 1) cell) 0, spWhite (2 * c + 1) cell + spUnit (2 * c + 1) cell * compOf (2 * c + 1) (spPlace (2 * c + 1) cell) (2 * c + 1), spWhite (2 * c + 1) cell + spUnit (2 * c + 1) cell * compOf (2 * c + 1) (spPlace (2 * c + 1) cell) (2 * (2 * c + 1))⟩ := rfl
  rw [e]
  generalize compOf (2 * c + 1) (spPlace (2 * c + 1) cell) 0 = a at *
  generalize compOf (2 * c + 1) (spPlace (2 * c + 1) cell) (2 * c + 1) = b at *
  generalize compOf (2 * c + 1) (spPlace (2 * c + 1) cell) (2 * (2 * c + 1)) = d at *
  generalize spPlace (2 * c + 1) cell = p at *
  generalize spWhite (2 * c + 1) cell = w at *
  generalize spUnit (2 * c + 1) cell = u at *
  clear e
  have us := mul_bd (a := u) (b := 2 * c + 1) (A := 4) (B := 21) (by omega) (by omega)
  have us0 := Int.mul_pos hu (show 0 < 2 * c + 1 by omega)
  have ua0 := Int.mul_nonneg (Int.le_of_lt hu) C.a0
  have ub0 := Int.mul_nonneg (Int.le_of_lt hu) C.b0
  have ud0 := Int.mul_nonneg (Int.le_of_lt hu) C.d0
  have ua1 := Int.mul_le_mul_of_nonneg_left C.a1 (Int.le_of_lt hu)
  have ub1 := Int.mul_le_mul_of_nonneg_left C.b1 (Int.le_of_lt hu)
  have ud1 := Int.mul_le_mul_of_nonneg_left C.d1 (Int.le_of_lt hu)
  have hM : spM ⟨p, w + u * a, w + u * b, w + u * d⟩ = w + u * (2 * c + 1) := by
    unfold spM
    dsimp only
    rcases C.one with ⟨h, _⟩ | ⟨h, _⟩ | ⟨h, _⟩ <;> rw [h] at * <;> omega
  have hz : ∀ y : Int, y = 0 → u * y = 0 := fun y h => by rw [h, Int.mul_zero]
  have hm : spm ⟨p, w + u * a, w + u * b, w + u * d⟩ = w := by
    unfold spm
    dsimp only
    have : u * a = 0 ∨ u * b = 0 ∨ u * d = 0 := by
      rcases C.one with ⟨_, _, _, h | h, _⟩ | ⟨_, _, _, h | h, _⟩ | ⟨_, _, _, h | h, _⟩
      · exact .inr (.inl (hz _ h))
      · exact .inr (.inr (hz _ h))
      · exact .inl (hz _ h)
      · exact .inr (.inr (hz _ h))
      · exact .inl (hz _ h)
      · exact .inr (.inl (hz _ h))
    omega
  have H : HueAt (3 * (2 * c + 1)) p (hueF ⟨p, w + u * a, w + u * b, w + u * d⟩) := by
    unfold hueF
    rw [hM, hm]
    exact raw_near (by omega) (by omega) hp.1 hp.2 hu hw.1 (by omega) C
  exact ⟨good_of (by omega) (by omega) hp.1 hp.2 (by rw [hm]; exact hw.1) (by rw [hM]; omega) (by rw [hm, hM]; omega) H, H⟩
theorem plain_law {c : Int} (h0 : 0 ≤ c) (h1 : c ≤ 10) {cs : List Int} (hl : cs.length = 15) :
    (∀ x ∈ cs.map (spotOf (2 * c + 1)), GoodSpot (2 * c + 1) x) ∧ Float64.isFinite (Float64.mul (Float64.ofInt 1048576) (wayF ((cs.map (spotOf (2 * c + 1))).map hueF) 12)) = true ∧
    toInt Float64.nearestOf (Float64.mul (Float64.ofInt 1048576) (wayF ((cs.map (spotOf (2 * c + 1))).map hueF) 12)) = 1048576 * triTurns ((cs.map (spotOf (2 * c + 1))).map ptOf) 16 := by
  refine ⟨fun x hx => ?_, ?_⟩
  · obtain ⟨cell, _, rfl⟩ := List.mem_map.mp hx
    exact (good_spot h0 h1 cell).1
  · have hb : ∀ k, k ≤ 12 → (bords.getD k 0).toNat < 15 := by decide
    refine border_round (pl := fun k => spPlace (2 * c + 1) (cs.getD (bords.getD k 0).toNat 0)) h0 h1 (fun k _ => place_in (by omega) _) (fun k hk => ?_) rfl rfl (sperner h0 h1 hl)
    have hk' : (bords.getD k 0).toNat < cs.length := by rw [hl]; exact hb k hk
    have e : bordF ((cs.map (spotOf (2 * c + 1))).map hueF) k = hueF (spotOf (2 * c + 1) (cs.getD (bords.getD k 0).toNat 0)) := by
      unfold bordF
      rw [List.getD_eq_getElem?_getD, List.getD_eq_getElem?_getD (l := cs), List.getElem?_map, List.getElem?_map, List.getElem?_eq_getElem hk']
      rfl
    rw [e]
    exact (good_spot h0 h1 _).2
local macro_rules | `(tactic| walk_at "call ref") => `(tactic| (k_here; (with_reducible show wpAny _ _ (call (Value.ref 91) [Value.ref _, Value.bool _]) _ _ _); (rename News _ _ _ _ => cN); (rename Fr _ _ _ _ => cF); (with_unfolding_all refine' hue_spot ?k1 ?k2 ?k3 ?k4 ?k5 ?_; (case k1 => exact Frag.In.keeps (by with_reducible assumption) cF.keep); (case k2 => exact Top.keeps (by with_reducible assumption) cF.keep); (case k4 => with_reducible assumption); (case k5 => (refine' isList_mem cN ?k9; (case k9 => walk_at "mine mem"))); (case k3 => walk_at "mine room"); k_whole); intro h9 tk9 t9 kp9; (have F9 := Fr.grownK cF kp9); (have N9 := News.grown cN kp9); clear kp9 cF cN; (try dsimp only)))
local macro_rules | `(tactic| walk_at "mine tup") => `(tactic| (refine' isTup_mem (by k_asm) ?k9; (case k9 => walk_at "mine mem")))
local macro_rules | `(tactic| walk_at "assign Tuple") => `(tactic| (k_here; (with_reducible show wpAny _ _ (assign (Expr.Tuple _ _ _) _ (Value.ref _)) _ _ _); (with_unfolding_all refine' unpack_mem ?F ?N ?T ?k1 ?k2 ?k3 ?_; (case F => k_asm); (case N => k_asm); (case T => walk_at "mine mem"); (case k1 => exact rfl); (case k2 => exact rfl); (case k3 => exact rfl)); intro h' F' N'; (try k_sweep)))
local macro_rules | `(tactic| walk_at "call ref") => `(tactic| (k_here; (with_reducible show wpAny _ _ (call (Value.ref 98) [Value.ref _, Value.ref _]) _ _ _); (rename News _ _ _ _ => cN); (rename Fr _ _ _ _ => cF); (with_unfolding_all refine' cross_w ?k1 ?k2 ?k3 ?k4 ?k5 ?k6 ?k7 ?k8 ?k9 ?_; (case k1 => exact Frag.In.keeps (by with_reducible assumption) cF.keep); (case k2 => exact Top.keeps (by with_reducible assumption) cF.keep); (case k3 => walk_at "mine room"); (case k4 => walk_at "mine tup"); (case k5 => walk_at "mine tup"); (case k6 => lia); (case k7 => lia); (case k8 => lia); (case k9 => lia); k_whole); intro h9 tk9 t9 z9 kp9 e9; (have F9 := Fr.grownK cF kp9); (have N9 := News.grown cN kp9); clear kp9 cF cN; (try dsimp only)))
local macro_rules | `(tactic| walk_at "mine for") => `(tactic| (k_here; (rename Fr _ _ _ _ => lF'); (with_unfolding_all refine' For_z 1 lF' ?hz8 ?_ ?hs9 ?hE9; (case hz8 => walk_at "mine pos"); (case hs9 => (intro _; rfl)); (case hE9 => first | assumption | passes_own); k_whole)))
local macro_rules | `(tactic| walk_at "call ref") => `(tactic| (k_here; (with_reducible show wpAny _ _ (call (Value.ref 21) [Value.float _ _, Value.float _ _, Value.float _ _]) _ _ _); (rename News _ _ _ _ => cN); (rename Fr _ _ _ _ => cF); (with_unfolding_all refine' hls_grey_t ?k1 ?k2 ?k3 ?k4 ?k5 ?_; (case k1 => exact Frag.In.keeps (by with_reducible assumption) cF.keep); (case k2 => exact Top.keeps (by with_reducible assumption) cF.keep); (case k3 => walk_at "mine room"); (case k4 => walk_at "mine pos"); (case k5 => with_reducible assumption); k_whole); intro a9 h9 tk9 t9 t8 t7 n9 n8 n7 kp9 ha9 hn9; (have F9 := Fr.grownK cF kp9); (have N9 := news_back cF cN kp9 ha9 hn9); clear kp9 ha9 hn9 cF cN; (try dsimp only)))
local macro_rules | `(tactic| walk_at "compareOp NotEq ref ref") => `(tactic| (k_here; (with_reducible show wpAny _ _ (compareOp CmpOp.NotEq (Value.ref _) (Value.ref _)) _ _ _); (rename News _ _ _ _ => cN); (rename Fr _ _ _ _ => cF); (with_unfolding_all refine' ne_floats3 (isTuple_mem cN ?m1) (isTuple_mem cN ?m2) ?r1 (none_booked (Frag.In.keeps (by with_reducible assumption) cF.keep)) ?k1 ?k2 ?k3 ?l1 ?l2 ?l3 ?h1 ?h2 ?h3 ?_; (case m1 => walk_at "mine mem"); (case m2 => walk_at "mine mem"); (case r1 => first | exact Nat.le_of_ble_eq_true rfl | decide); (case k1 => walk_at "mine pos"); (case k2 => walk_at "mine pos"); (case k3 => walk_at "mine pos"); (case l1 => walk_at "mine pos"); (case l2 => walk_at "mine pos"); (case l3 => walk_at "mine pos"); (case h1 => with_reducible assumption); (case h2 => with_reducible assumption); (case h3 => with_reducible assumption); k_whole)))
local macro_rules | `(tactic| walk_at "subscriptTail Subscript Name ref int") => `(tactic| walk_at "mine arr")
local macro_rules | `(tactic| walk_at "mine tupitem") => `(tactic| (k_here; (with_reducible show wpAny _ _ (subscriptTail _ _ (Value.ref _) (Value.int _ _)) _ _ _); (with_unfolding_all refine' item_tupm ?k0 ?k1 ?k2 ?k3 ?k4 ?k5 ?_; (case k0 => k_asm); (case k1 => walk_at "mine mem"); (case k2 => decide); (case k3 => decide); (case k4 => exact rfl); (case k5 => exact rfl); k_whole); (try dsimp only)))
local macro_rules | `(tactic| walk_at "newList") => `(tactic| (k_here; (with_reducible show wpAny _ _ (newList (_ :: _ :: _ :: _ :: _ :: _ :: _ :: _ :: _ :: _ :: _ :: _ :: _ :: _)) _ _ _); (refine' newList_ints (ns := [0, 1, 2, 3, 4, 8, 11, 13, 14, 12, 9, 5, 0]) ?k1 ?k2 ?k3 ?k4 ?_; (case k1 => k_asm); (case k2 => k_asm); (case k3 => repeat (first | exact IntsAre.nil | refine IntsAre.cons _ _ ?_)); (case k4 => exact Nat.le_of_ble_eq_true rfl); k_whole); intro l' ws' h' F' N' l1 hI'; (try k_lt l1); (try k_sweep)))
local macro_rules | `(tactic| walk_at "mine sub") => `(tactic| (intro p9 hp9; (repeat first | with_unfolding_all exact hp9 | refine List.mem_cons_of_mem _ ?_ | refine List.mem_append.mpr (.inr ?_))))
local macro_rules | `(tactic| walk_at "subscriptTail Name Constant ref int") => `(tactic| first | walk_at "mine tupitem" | (walk_at "mine item"; (try dsimp only)))
local macro_rules | `(tactic| walk_at "subscriptTail Name Subscript ref int") => `(tactic| walk_at "mine arr")
local macro_rules | `(tactic| walk_at "call ref") => `(tactic| walk_at "mine after")

theorem law_rest {w : World} {mean : ExcName → Option Value} {mg mb : Str → Option Value} {s : Shared} {h₀ : Heap} {L fa cda : Addr} {m₁ : Str → Option Value} {T₀ : List (Addr × Obj)} {Q : Flow → Shared → Prop} {E : Value → Shared → Prop}
   (X : (hd.heap_39 w.params).In h₀) (T : Top hd.view_39 (looseW hd.view_39 []) mean mg mb h₀)
   {sa : Addr} {side : Int} {ts : Tok} (F : Fr h₀ L s.heap (fun y => if y = Str.ofString "spots" then some (.ref sa) else if y = Str.ofString "side" then some (.int side ts) else m₁ y)) (N : News h₀ L s.heap T₀)
   {sv : Array Value} {sn : Nat} {xs : List Spot} (hsa : (sa, listOf sv sn) ∈ T₀) (hsv : All2 (SpotIn T₀) sv.toList xs) (hlen : xs.length = 15) (h0 : 1 ≤ s.toks) (hs1 : 1 ≤ side) (hs2 : side ≤ 21) (hG : ∀ x ∈ xs, GoodSpot side x)
   (hfin : Float64.isFinite (Float64.mul (Float64.ofInt 1048576) (wayF (xs.map hueF) 12)) = true) (hround : toInt Float64.nearestOf (Float64.mul (Float64.ofInt 1048576) (wayF (xs.map hueF) 12)) = 1048576 * triTurns (xs.map ptOf) 16)
   (hQ : ∀ h' tk m' news', Fr h₀ L h' m' → News h₀ L h' news' → Q (.ret (.bool true)) { s with heap := h', toks := tk })
   (hE : PassesOwn (model PySem.Challenge.rw_pe0059_01.row.prog w) (callerA.deeper (envOf (Str.ofString "law") (scopeOf lawStmt) L fa (.ref cda))) (envOf (Str.ofString "law") (scopeOf lawStmt) L fa (.ref cda)) E) :
   wpAny (model PySem.Challenge.rw_pe0059_01.row.prog w) (callerA.deeper (envOf (Str.ofString "law") (scopeOf lawStmt) L fa (.ref cda))) (execs ((bodyOf lawStmt).drop 4) (envOf (Str.ofString "law") (scopeOf lawStmt) L fa (.ref cda))) Q E s := by
  revert hE
  dsimp only [lawStmt, bodyOf, scopeOf, PySem.Challenge.pw_pe0059_01, List.getD, List.getD_cons_succ, List.getD_cons_zero, List.getElem?_cons_succ, List.getElem?_cons_zero, Option.getD_some, List.drop]
  intro hE
  k_steps
  unfold Stop
  (try dsimp only)
  rename IsRange _ _ _ _ _ _ _ _ => hR
  rename News _ _ _ _ => hN
  rename Fr _ _ _ _ => hF
  with_unfolding_all refine turns_range_z 1 (σ := (Array Value × Nat × List (Int × Int)) × (Array Value × Nat)) 15 (fun c => [(_, listOf c.1.1 c.1.2.1), (_, listOf c.2.1 c.2.2)]) (fun _ => []) (fun S c => All2 (PtIn S) c.1.1.toList c.1.2.2) [Str.ofString "k", Str.ofString "place", Str.ofString "parts", Str.ofString "hue"] (fun i c => c.1.2.2 = (xs.take i).map ptOf ∧ All2 FloatIs c.2.1.toList ((xs.take i).map hueF)) ((#[], 0, []), (#[], 0)) [] (fun _ h => nomatch h) rfl hR rfl rfl (fun _ _ => rfl) hF hN ?_ (fun _ => rfl) .nil (fun _ h => nomatch h) ⟨rfl, .nil⟩ ?_ ?_
  · intro p hp hq
    rcases List.mem_cons.mp hq with e | hq
    · exact absurd e (Nat.ne_of_lt (allLt_mem (by walk_at "mine below") p hp))
    · exact absurd (List.mem_singleton.mp hq) (Nat.ne_of_lt (allLt_mem (by walk_at "mine below") p hp))
  · intro i t c S R u h tk hlt hz hSR hT0 hRa hfa hP F N
    obtain ⟨⟨pts, n1, ys⟩, hus, n2⟩ := c
    dsimp only [List.map] at *
    obtain ⟨rfl, hhu⟩ := hP
    change Fr h₀ L h _ at F
    change News h₀ L h (_ :: _ :: R) at N
    clear hR hF hN
    have hil : i < xs.length := by lia
    have hxi : xs[i]? = some (xs[i]'hil) := List.getElem?_eq_getElem hil
    have hgood := hG _ (List.getElem_mem hil)
    obtain ⟨v, hv, a, p, tt, nn, t1, t2, t3, rfl, hm1, hm2⟩ := hsv.get hxi
    have hstep : ∀ {β : Type} (f : Spot → β), (xs.take (i + 1)).map f = (xs.take i).map f ++ [f (xs[i]'hil)] := fun f => by
      rw [List.take_add_one, hxi, List.map_append]; rfl
    generalize xs[i]'hil = x at *
    have hm1 := hT0 _ hm1
    have hm2 := hT0 _ hm2
    have hsa' := hT0 _ hsa
    have hv' : sv.toList[((i : Int)).toNat]? = some (.ref a) := hv
    have hC1 := fun p hp e => hRa p hp (List.mem_cons.mpr (.inl e))
    have hC2 := fun p hp e => hRa p hp (List.mem_cons_of_mem _ (List.mem_singleton.mpr e))
    have h8 := hgood.h8
    have h9 := hgood.h9
    have hz1 : pts.size ≤ 100 := by
      have h1 := hfa.length
      rw [List.length_map, List.length_take, Array.length_toList] at h1
      lia
    have hz2 : hus.size ≤ 100 := by
      have h1 := hhu.length
      rw [List.length_map, List.length_take, Array.length_toList] at h1
      lia
    refine turn_abs fun QX hQX => ?_
    refine wpAny_assign_Name ?_
    k_steps
    all_goals (try k_data)
    · exact absurd h9 (by assumption)
    · refine hQX _ _ ?_
      dsimp only [LoopPost]
      rename News _ _ _ _ => hN
      rename Fr _ _ _ _ => hF
      with_unfolding_all refine LoopEnd.intro ((_, _, (xs.take i).map ptOf ++ [ptOf x]), (_, _)) [_] hF hN mem_pt ?_ (pt_step hfa (List.Mem.head _)) ⟨(hstep ptOf).symm, flt_step hhu (hstep hueF)⟩ ?_
      · walk_at "mine apart"
      · walk_at "mine names"
  · intro c ex u h tk hz hex hfa hP F N
    obtain ⟨⟨pts, n1, ys⟩, hus, n2⟩ := c
    dsimp only [List.map] at *
    obtain ⟨rfl, hhu⟩ := hP
    change Fr h₀ L h _ at F
    change News h₀ L h (_ :: _ :: (ex ++ T₀)) at N
    rw [← hlen, List.take_length] at hfa hhu
    clear hR hF hN
    k_steps
    rename News _ _ _ _ => cN
    rename Fr _ _ _ _ => cF
    with_unfolding_all refine' tri_call ?k1 ?k2 ?k3 ?_
    case k1 => exact Frag.In.keeps (by with_reducible assumption) cF.keep
    case k2 => exact Top.keeps (by with_reducible assumption) cF.keep
    case k3 => walk_at "mine room"
    intro ta tvs tn objs h9 tk9 kp9 hleft hta htri
    have F9 := Fr.grownK cF kp9
    obtain ⟨T₁, N9, mT, htr, mP, mH, hpt, mS, hsp⟩ := gen_led (news_left cF cN kp9 hleft) hta htri hfa hsa hsv
    clear kp9 hleft hta htri cF cN hfa hsa hsv hex
    (try dsimp only)
    k_steps
    unfold Stop
    (try dsimp only)
    rename News _ _ _ _ => hN
    rename Fr _ _ _ _ => hF
    have hlT := isList_mem (n := tn) hN mT
    with_unfolding_all refine turns_list_z 1 (vs := tvs.toList) (σ := Int × Tok) (fun _ => []) (fun c => [(Str.ofString "turns", .int c.1 c.2)]) (fun _ _ => True) [Str.ofString "turns", Str.ofString "one", Str.ofString "two", Str.ofString "three", Str.ofString "weights", Str.ofString "mixed", Str.ofString "c", Str.ofString "some"] (fun i c => c.1 = triTurns (xs.map ptOf) i) (0, _) [] (fun _ h => nomatch h) rfl hlT (hN _ mT).2.1 (fun h => nomatch h) hF hN (fun _ _ h => nomatch h) (fun _ => rfl) trivial (List.forall_mem_cons.mpr ⟨rfl, List.forall_mem_nil _⟩) rfl ?_ ?_
    · intro i v c S R u h tk hv hz hSR hT0 hRa _ hP F N
      obtain ⟨tn0, tt0⟩ := c
      dsimp only at *
      subst hP
      change Fr h₀ L h _ at F
      change News h₀ L h R at N
      clear hF hN hlT
      have hil : i < tris.length := by rw [← htr.length]; exact (List.getElem?_eq_some_iff.mp hv).1
      have htx : tris[i]? = some (tris[i]'hil) := List.getElem?_eq_getElem hil
      obtain ⟨v', hv', hvi⟩ := htr.get htx
      rw [hv] at hv'
      cases hv'
      have hb := tris_in _ (List.getElem_mem hil)
      have hstep : triTurns (xs.map ptOf) (i + 1) = triTurns (xs.map ptOf) i + triTurn (xs.map ptOf) (tris[i]'hil) := by
        unfold triTurns
        rw [List.take_add_one, htx, List.map_append, List.sum_append]
        simp
      generalize tris[i]'hil = tri at *
      obtain ⟨o, q, r⟩ := tri
      dsimp only at hb hvi
      obtain ⟨b1, b2, b3, b4, b5, b6⟩ := hb
      have o63 : o < 2 ^ 63 := by omega
      have q63 : q < 2 ^ 63 := by omega
      have r63 : r < 2 ^ 63 := by omega
      obtain ⟨va, ta1, ta2, ta3, rfl, mtri⟩ := hvi
      dsimp only at mtri
      obtain ⟨x1, ap1, tp1, up1, sp1, pl1, tt1, n1', t11, t12, t13, hx1, hd1, hp1, mp1, hs1', ms1, ml1⟩ := corner hpt hsp b1 b2 hlen
      obtain ⟨x2, ap2, tp2, up2, sp2, pl2, tt2, n2', t21, t22, t23, hx2, hd2, hp2, mp2, hs2', ms2, ml2⟩ := corner hpt hsp b3 b4 hlen
      obtain ⟨x3, ap3, tp3, up3, sp3, pl3, tt3, n3', t31, t32, t33, hx3, hd3, hp3, mp3, hs3', ms3, ml3⟩ := corner hpt hsp b5 b6 hlen
      have B1 := part_bounds (hG _ hx1)
      have B2 := part_bounds (hG _ hx2)
      have B3 := part_bounds (hG _ hx3)
      have mtri := hT0 _ mtri
      have mp1 := hT0 _ mp1
      have mp2 := hT0 _ mp2
      have mp3 := hT0 _ mp3
      have ms1 := hT0 _ ms1
      have ms2 := hT0 _ ms2
      have ms3 := hT0 _ ms3
      have ml1 := hT0 _ ml1
      have ml2 := hT0 _ ml2
      have ml3 := hT0 _ ml3
      have mP' := hT0 _ mP
      have mS' := hT0 _ mS
      have htt : triTurn (xs.map ptOf) (o, q, r) = sgn3 (crossOf (ptOf x2) (ptOf x3)) (crossOf (ptOf x3) (ptOf x1)) (crossOf (ptOf x1) (ptOf x2)) := by
        unfold triTurn
        dsimp only
        rw [hd1, hd2, hd3]
      rw [htt] at hstep
      clear htt hd1 hd2 hd3 hv htx hSR hRa
      unfold ptOf at mp1 mp2 mp3
      dsimp only at mp1 mp2 mp3
      refine turn_abs fun QX hQX => ?_
      k_steps
      · unfold Stop
        (try dsimp only)
        rename IsRange _ _ _ _ _ _ _ _ => hR
        rename News _ _ _ _ => hN
        rename Fr _ _ _ _ => hF
        rename _ = (2 * x2.r - x2.g - x2.b) * (x3.g - x3.b) - (x2.g - x2.b) * (2 * x3.r - x3.g - x3.b) => eW0
        rename _ = (2 * x3.r - x3.g - x3.b) * (x1.g - x1.b) - (x3.g - x3.b) * (2 * x1.r - x1.g - x1.b) => eW1
        rename _ = (2 * x1.r - x1.g - x1.b) * (x2.g - x2.b) - (x1.g - x1.b) * (2 * x2.r - x2.g - x2.b) => eW2
        replace eW0 : _ = crossOf (ptOf x2) (ptOf x3) := eW0
        replace eW1 : _ = crossOf (ptOf x3) (ptOf x1) := eW1
        replace eW2 : _ = crossOf (ptOf x1) (ptOf x2) := eW2
        have hc0 := cross_bound B2 B3
        have hc1 := cross_bound B3 B1
        have hc2 := cross_bound B1 B2
        subst eW0 eW1 eW2
        generalize hw0 : crossOf (ptOf x2) (ptOf x3) = w0 at *
        generalize hw1 : crossOf (ptOf x3) (ptOf x1) = w1 at *
        generalize hw2 : crossOf (ptOf x1) (ptOf x2) = w2 at *
        have hsg : sgn3 w0 w1 w2 = 1 := by
          unfold sgn3
          exact if_pos ⟨by lia, by lia, by lia⟩
        rw [hsg] at hstep
        with_unfolding_all refine turns_range_z 1 (σ := Array Value × Nat) 3 (fun c => [(_, listOf c.1 c.2)]) (fun _ => []) (fun _ _ => True) [Str.ofString "c", Str.ofString "some"] (fun i c => All2 FloatPos c.1.toList (((rgbs x1 x2 x3).take i).map (mixF w0 w1 w2))) (#[], 0) [] (fun _ h => nomatch h) rfl hR rfl rfl (fun _ _ => rfl) hF hN ?_ (fun _ => rfl) trivial (fun _ h => nomatch h) .nil ?_ ?_
        · intro p hp hq
          have hq' := List.mem_singleton.mp hq
          rcases List.mem_cons.mp hp with e | hp
          · subst e
            refine absurd hq' (neN ?_)
            (try dsimp only)
            lia
          · exact absurd hq' (Nat.ne_of_lt (allLt_mem (by walk_at "mine below") p hp))
        · intro k tc c S2 R2 u2 h2 tk2 hlt2 hz2 _ hT2 hRa2 _ hok F N
          obtain ⟨arr, na⟩ := c
          dsimp only [List.map] at *
          change Fr h₀ L h2 _ at F
          change News h₀ L h2 (_ :: R2) at N
          clear hR hF hN
          have hC2 := fun p hp e => hRa2 p hp (List.mem_singleton.mpr e)
          have hsz2 : arr.size ≤ 100 := by
            have h1 := All2.length hok
            rw [List.length_map, List.length_take, Array.length_toList] at h1
            have h2 : (rgbs x1 x2 x3).length = 3 := rfl
            lia
          obtain ⟨a1, a2, a3, u1, u2', u3, i1, i2, i3, hb1, hb2, hb3, hnext⟩ := three_parts (t1 := t11) (t2 := t12) (t3 := t13) (u1 := t21) (u2 := t22) (u3 := t23) (v1 := t31) (v2 := t32) (v3 := t33) B1 B2 B3 hlt2
          have hmb := mix_bound hc0 hc1 hc2 hb1 hb2 hb3
          have k63 : (k : Int) < 2 ^ 63 := by omega
          have mw := hT2 _ (List.Mem.head _)
          have mtri := hT2 _ (List.mem_cons_of_mem _ mtri)
          have ms1 := hT2 _ (List.mem_cons_of_mem _ ms1)
          have ms2 := hT2 _ (List.mem_cons_of_mem _ ms2)
          have ms3 := hT2 _ (List.mem_cons_of_mem _ ms3)
          have ml1 := hT2 _ (List.mem_cons_of_mem _ ml1)
          have ml2 := hT2 _ (List.mem_cons_of_mem _ ml2)
          have ml3 := hT2 _ (List.mem_cons_of_mem _ ml3)
          have mS' := hT2 _ (List.mem_cons_of_mem _ mS')
          refine turn_abs fun QX hQX => ?_
          refine wpAny_assign_Name ?_
          k_steps
          refine hQX _ _ ?_
          dsimp only [LoopPost]
          rename News _ _ _ _ => hN
          rename Fr _ _ _ _ => hF
          with_unfolding_all refine LoopEnd.intro (_, _) [] hF hN (fun _ h => h) (List.forall_mem_nil _) trivial (fltp_step hok (by walk_at "mine pos") (hnext (mixF w0 w1 w2))) ?_
          walk_at "mine names"
        · intro c ex2 u2 h2 tk2 hz2 hex2 _ hok F N
          obtain ⟨arr, na⟩ := c
          dsimp only [List.map] at *
          change Fr h₀ L h2 _ at F
          change News h₀ L h2 (_ :: (ex2 ++ _)) at N
          obtain ⟨mm, tA, tB, tC, harr, hnA, hnB, hnC, hg1, hg2, hg3⟩ := three_mixed hw0.symm hw1.symm hw2.symm B1 B2 B3 hok
          subst harr
          clear hR hF hN hok
          k_steps
          refine hQX _ _ ?_
          dsimp only [LoopPost]
          rename News _ _ _ _ => hN
          rename Fr _ _ _ _ => hF
          with_unfolding_all refine' LoopEnd.intro (triTurns (xs.map ptOf) i + 1, _) [] hF hN ?s ?a trivial ?o ?n
          case s => walk_at "mine sub"
          case a => exact List.forall_mem_nil _
          case o => exact hstep.symm
          case n => walk_at "mine names"
      · unfold Stop
        (try dsimp only)
        rename IsRange _ _ _ _ _ _ _ _ => hR
        rename News _ _ _ _ => hN
        rename Fr _ _ _ _ => hF
        rename _ = (2 * x2.r - x2.g - x2.b) * (x3.g - x3.b) - (x2.g - x2.b) * (2 * x3.r - x3.g - x3.b) => eW0
        rename _ = (2 * x3.r - x3.g - x3.b) * (x1.g - x1.b) - (x3.g - x3.b) * (2 * x1.r - x1.g - x1.b) => eW1
        rename _ = (2 * x1.r - x1.g - x1.b) * (x2.g - x2.b) - (x1.g - x1.b) * (2 * x2.r - x2.g - x2.b) => eW2
        replace eW0 : _ = crossOf (ptOf x2) (ptOf x3) := eW0
        replace eW1 : _ = crossOf (ptOf x3) (ptOf x1) := eW1
        replace eW2 : _ = crossOf (ptOf x1) (ptOf x2) := eW2
        have hc0 := cross_bound B2 B3
        have hc1 := cross_bound B3 B1
        have hc2 := cross_bound B1 B2
        subst eW0 eW1 eW2
        generalize hw0 : crossOf (ptOf x2) (ptOf x3) = w0 at *
        generalize hw1 : crossOf (ptOf x3) (ptOf x1) = w1 at *
        generalize hw2 : crossOf (ptOf x1) (ptOf x2) = w2 at *
        have hsg : sgn3 w0 w1 w2 = -1 := by
          unfold sgn3
          rw [if_neg (by lia)]
          exact if_pos ⟨by lia, by lia, by lia⟩
        rw [hsg] at hstep
        with_unfolding_all refine turns_range_z 1 (σ := Array Value × Nat) 3 (fun c => [(_, listOf c.1 c.2)]) (fun _ => []) (fun _ _ => True) [Str.ofString "c", Str.ofString "some"] (fun i c => All2 FloatPos c.1.toList (((rgbs x1 x2 x3).take i).map (mixF w0 w1 w2))) (#[], 0) [] (fun _ h => nomatch h) rfl hR rfl rfl (fun _ _ => rfl) hF hN ?_ (fun _ => rfl) trivial (fun _ h => nomatch h) .nil ?_ ?_
        · intro p hp hq
          have hq' := List.mem_singleton.mp hq
          rcases List.mem_cons.mp hp with e | hp
          · subst e
            refine absurd hq' (neN ?_)
            (try dsimp only)
            lia
          · exact absurd hq' (Nat.ne_of_lt (allLt_mem (by walk_at "mine below") p hp))
        · intro k tc c S2 R2 u2 h2 tk2 hlt2 hz2 _ hT2 hRa2 _ hok F N
          obtain ⟨arr, na⟩ := c
          dsimp only [List.map] at *
          change Fr h₀ L h2 _ at F
          change News h₀ L h2 (_ :: R2) at N
          clear hR hF hN
          have hC2 := fun p hp e => hRa2 p hp (List.mem_singleton.mpr e)
          have hsz2 : arr.size ≤ 100 := by
            have h1 := All2.length hok
            rw [List.length_map, List.length_take, Array.length_toList] at h1
            have h2 : (rgbs x1 x2 x3).length = 3 := rfl
            lia
          obtain ⟨a1, a2, a3, u1, u2', u3, i1, i2, i3, hb1, hb2, hb3, hnext⟩ := three_parts (t1 := t11) (t2 := t12) (t3 := t13) (u1 := t21) (u2 := t22) (u3 := t23) (v1 := t31) (v2 := t32) (v3 := t33) B1 B2 B3 hlt2
          have hmb := mix_bound hc0 hc1 hc2 hb1 hb2 hb3
          have k63 : (k : Int) < 2 ^ 63 := by omega
          have mw := hT2 _ (List.Mem.head _)
          have mtri := hT2 _ (List.mem_cons_of_mem _ mtri)
          have ms1 := hT2 _ (List.mem_cons_of_mem _ ms1)
          have ms2 := hT2 _ (List.mem_cons_of_mem _ ms2)
          have ms3 := hT2 _ (List.mem_cons_of_mem _ ms3)
          have ml1 := hT2 _ (List.mem_cons_of_mem _ ml1)
          have ml2 := hT2 _ (List.mem_cons_of_mem _ ml2)
          have ml3 := hT2 _ (List.mem_cons_of_mem _ ml3)
          have mS' := hT2 _ (List.mem_cons_of_mem _ mS')
          refine turn_abs fun QX hQX => ?_
          refine wpAny_assign_Name ?_
          k_steps
          refine hQX _ _ ?_
          dsimp only [LoopPost]
          rename News _ _ _ _ => hN
          rename Fr _ _ _ _ => hF
          with_unfolding_all refine LoopEnd.intro (_, _) [] hF hN (fun _ h => h) (List.forall_mem_nil _) trivial (fltp_step hok (by walk_at "mine pos") (hnext (mixF w0 w1 w2))) ?_
          walk_at "mine names"
        · intro c ex2 u2 h2 tk2 hz2 hex2 _ hok F N
          obtain ⟨arr, na⟩ := c
          dsimp only [List.map] at *
          change Fr h₀ L h2 _ at F
          change News h₀ L h2 (_ :: (ex2 ++ _)) at N
          obtain ⟨mm, tA, tB, tC, harr, hnA, hnB, hnC, hg1, hg2, hg3⟩ := three_mixed hw0.symm hw1.symm hw2.symm B1 B2 B3 hok
          subst harr
          clear hR hF hN hok
          k_steps
          refine hQX _ _ ?_
          dsimp only [LoopPost]
          rename News _ _ _ _ => hN
          rename Fr _ _ _ _ => hF
          with_unfolding_all refine' LoopEnd.intro (triTurns (xs.map ptOf) i - 1, _) [] hF hN ?s ?a trivial ?o ?n
          case s => walk_at "mine sub"
          case a => exact List.forall_mem_nil _
          case o => exact (hstep.trans (Int.sub_eq_add_neg).symm).symm
          case n => walk_at "mine names"
      · refine hQX _ _ ?_
        dsimp only [LoopPost]
        (try dsimp only)
        rename News _ _ _ _ => hN
        rename Fr _ _ _ _ => hF
        rename _ = (2 * x2.r - x2.g - x2.b) * (x3.g - x3.b) - (x2.g - x2.b) * (2 * x3.r - x3.g - x3.b) => eW0
        rename _ = (2 * x3.r - x3.g - x3.b) * (x1.g - x1.b) - (x3.g - x3.b) * (2 * x1.r - x1.g - x1.b) => eW1
        rename _ = (2 * x1.r - x1.g - x1.b) * (x2.g - x2.b) - (x1.g - x1.b) * (2 * x2.r - x2.g - x2.b) => eW2
        replace eW0 : _ = crossOf (ptOf x2) (ptOf x3) := eW0
        replace eW1 : _ = crossOf (ptOf x3) (ptOf x1) := eW1
        replace eW2 : _ = crossOf (ptOf x1) (ptOf x2) := eW2
        have hc0 := cross_bound B2 B3
        have hc1 := cross_bound B3 B1
        have hc2 := cross_bound B1 B2
        subst eW0 eW1 eW2
        generalize hw0 : crossOf (ptOf x2) (ptOf x3) = w0 at *
        generalize hw1 : crossOf (ptOf x3) (ptOf x1) = w1 at *
        generalize hw2 : crossOf (ptOf x1) (ptOf x2) = w2 at *
        have hsg : sgn3 w0 w1 w2 = 0 := by
          unfold sgn3
          rw [if_neg (by lia), if_neg (by lia)]
        rw [hsg] at hstep
        with_unfolding_all refine' LoopEnd.intro (triTurns (xs.map ptOf) i, _) [] hF hN ?s ?a trivial ?o ?n
        case s => walk_at "mine sub"
        case a => exact List.forall_mem_nil _
        case o => exact (hstep.trans (Int.add_zero _)).symm
        case n => walk_at "mine names"
    · intro c ex u h tk hz hex _ hP F N
      obtain ⟨tn0, tt0⟩ := c
      dsimp only at *
      rw [htr.length] at hP
      change tn0 = triTurns (xs.map ptOf) 16 at hP
      have htb := triTurns_bound (xs.map ptOf)
      subst hP
      change Fr h₀ L h _ at F
      change News h₀ L h (ex ++ T₁) at N
      have mH' := List.mem_append.mpr (.inr mH : _ ∈ ex ∨ _ ∈ T₁)
      clear hF hN hlT hex
      generalize ex ++ T₁ = T₂ at *
      k_steps
      unfold Stop
      (try dsimp only)
      rename IsRange _ _ _ _ _ _ _ _ => hR
      rename News _ _ _ _ => hN
      rename Fr _ _ _ _ => hF
      rename IntsAre _ _ => hI
      rename List Value => ws
      with_unfolding_all refine turns_range_z 1 (σ := UInt64 × Tok) 12 (fun _ => []) (fun c => [(Str.ofString "way", .float c.1 c.2)]) (fun _ _ => True) [Str.ofString "k", Str.ofString "step", Str.ofString "way"] (fun i c => c.1 = wayF (xs.map hueF) i) (0, _) [] (fun _ h => nomatch h) rfl hR rfl rfl (fun _ _ => rfl) hF hN (fun _ _ h => nomatch h) (fun _ => rfl) trivial (List.forall_mem_cons.mpr ⟨rfl, List.forall_mem_nil _⟩) rfl ?_ ?_
      · intro k tc c S R u h tk hlt hz _ hT2 _ _ hok F N
        obtain ⟨wy, tw⟩ := c
        dsimp only at *
        subst hok
        change Fr h₀ L h _ at F
        change News h₀ L h R at N
        clear hF hN hR
        obtain ⟨tb, b, hbv, hb, hb0, hb1⟩ := bord_at hI (show k < 13 by lia)
        obtain ⟨tb', b', hbv', hb', hb0', hb1'⟩ := bord_at hI (show k + 1 < 13 by lia)
        have hl15 : (xs.map hueF).length = 15 := by rw [List.length_map]; exact hlen
        obtain ⟨th, hhv⟩ := hue_at hhu hl15 hb0 hb1
        obtain ⟨th', hhv'⟩ := hue_at hhu hl15 hb0' hb1'
        have mB := hT2 _ (List.Mem.head _)
        have mH := hT2 _ (List.mem_cons_of_mem _ mH')
        replace hbv : ws.toArray.toList[((k : Int)).toNat]? = some (.int b tb) := by simpa using hbv
        replace hbv' : ws.toArray.toList[((k : Int) + 1).toNat]? = some (.int b' tb') := by
          rw [show ((k : Int) + 1).toNat = k + 1 by lia]
          simpa using hbv'
        have k63 : (k : Int) < 2 ^ 63 := by omega
        have k63' : (k : Int) + 1 < 2 ^ 63 := by omega
        have k0' : 0 ≤ (k : Int) + 1 := by omega
        have b63 : b < 2 ^ 63 := by omega
        have b63' : b' < 2 ^ 63 := by omega
        refine turn_abs fun QX hQX => ?_
        refine wpAny_assign_Name ?_
        k_steps
        refine hQX _ _ ?_
        dsimp only [LoopPost]
        rename News _ _ _ _ => hN
        rename Fr _ _ _ _ => hF
        with_unfolding_all refine' LoopEnd.intro (wayF (xs.map hueF) (k + 1), _) [] hF hN (fun _ h => h) ?a trivial rfl ?n
        case a => exact List.forall_mem_nil _
        case n =>
          subst hb hb'
          walk_at "mine names"
      · intro c ex u h tk hz hex _ hok F N
        obtain ⟨wy, tw⟩ := c
        dsimp only at *
        subst hok
        change Fr h₀ L h _ at F
        change News h₀ L h (ex ++ _) at N
        clear hF hN hR
        k_steps
        all_goals (try k_data)
        have e9 : (toInt Float64.nearestOf (Float64.mul (Float64.ofInt 1048576) (wayF (xs.map hueF) 12)) == 1048576 * triTurns (xs.map ptOf) 16) = true := by rw [hround]; exact beq_self_eq_true _
        rw [e9]
        rename News _ _ _ _ => hN
        rename Fr _ _ _ _ => hF
        exact hQ _ _ _ _ hF hN
theorem side_bounds (n : Int) : 1 ≤ 2 * n.fmod 11 + 1 ∧ 2 * n.fmod 11 + 1 ≤ 21 := by
  have h1 := Int.fmod_nonneg_of_pos n (show (0 : Int) < 11 by decide)
  have h2 := Int.fmod_lt_of_pos n (show (0 : Int) < 11 by decide)
  omega
theorem gen_spots {h₀ h : Heap} {L a : Addr} {objs news : List (Addr × Obj)} {vs : Array Value} {n : Nat} {xs : List Spot} (N : News h₀ L h (objs ++ news)) (ha : (a, listOf vs n) ∈ objs) (hs : All2 (SpotIn objs) vs.toList xs) :
    ∃ T, News h₀ L h T ∧ (a, listOf vs n) ∈ T ∧ All2 (SpotIn T) vs.toList xs :=
  ⟨_, N, List.mem_append.mpr (.inl ha), hs.mono fun _ _ => spot_mono fun _ hp => List.mem_append.mpr (.inl hp)⟩
local macro_rules | `(tactic| walk_at "subscriptTail Name Constant ref int") => `(tactic| (k_here; (with_reducible show wpAny _ _ (subscriptTail _ _ (Value.ref _) (Value.int _ _)) _ _ _); (with_reducible rename IntsAre _ (_ ++ _) => hIA9); (refine' item_ints ?k0 ?k1 hIA9 ?k3 ?k5 ?k4 ?_; (case k0 => k_asm); (case k1 => walk_at "mine mem"); (case k3 => decide); (case k5 => decide); (case k4 => (simp only [List.length_append, List.length_take, List.length_drop, List.length_cons, List.length_nil, Int.toNat_natCast, Int.reduceToNat]; lia)); k_whole); intro t9; (try dsimp only)))
local macro_rules | `(tactic| walk_at "newList") => `(tactic| (k_here; (with_reducible show wpAny _ _ (newList (_ :: _ :: _ :: _ :: _ :: _ :: _ :: _ :: _ :: _ :: _ :: _ :: _ :: _)) _ _ _); (refine' newList_ints (ns := [0, 0, 15, 7, 25, 11, 4, 37, 21, 5, 30, 2, 51, 8, 10, 14]) ?k1 ?k2 ?k3 ?k4 ?_; (case k1 => k_asm); (case k2 => k_asm); (case k3 => repeat (first | exact IntsAre.nil | refine IntsAre.cons _ _ ?_)); (case k4 => exact Nat.le_of_ble_eq_true rfl); k_whole); intro l' ws' h' F' N' l1 hI'; (try k_lt l1); (try k_sweep)))
local macro_rules | `(tactic| walk_at "subscriptTail Name Slice ref ref") => `(tactic| (k_here; (with_reducible show wpAny _ _ (subscriptTail _ (PySem.Expr.Slice (some _) none none _) (Value.ref _) (Value.ref _)) _ _ _); k_dflt (refine' slice_from ?F1 ?N1 ?l1 ?i1 ?k11 ?z1 ?_ ?s1 ?t1; (case F1 => k_asm); (case N1 => k_asm); (case l1 => walk_at "mine mem"); (case i1 => with_reducible assumption); (case k11 => lia); (case z1 => (simp only [List.length_append, List.length_take, List.length_drop, List.length_cons, List.length_nil]; lia)); (case s1 => with_unfolding_all rfl); (case t1 => kmk_pure)); intro D' ws' h' F' N' l1 hI'; (try k_lt l1); (try k_sweep); (try dsimp only)))

theorem law_holds : PySem.Challenge.rw_pe0059_01.Holds := hd (by
  k_go0
  all_goals try k_fold
  rename Below _ _ _ _ => hB
  clear hB
  k_steps
  rename News _ _ _ _ => cN
  rename Fr _ _ _ _ => cF
  rename List Int => ns
  have hlen : (List.take 16 ns ++ List.drop ((ns.length : Int)).toNat [0, 0, 15, 7, 25, 11, 4, 37, 21, 5, 30, 2, 51, 8, 10, 14]).length = 16 := by
    simp only [List.length_append, List.length_take, List.length_drop, List.length_cons, List.length_nil]
    omega
  generalize (List.take 16 ns ++ List.drop ((ns.length : Int)).toNat [0, 0, 15, 7, 25, 11, 4, 37, 21, 5, 30, 2, 51, 8, 10, 14]) = cells at *
  have hsb := side_bounds (cells.getD (Int.toNat 0) 0)
  have hcl : (List.drop (Int.toNat 1) cells).length = 15 := by
    rw [List.length_drop]
    show cells.length - 1 = 15
    omega
  have hf1 := Int.fmod_nonneg_of_pos (cells.getD (Int.toNat 0) 0) (show (0 : Int) < 11 by decide)
  have hf2 := Int.fmod_lt_of_pos (cells.getD (Int.toNat 0) 0) (show (0 : Int) < 11 by decide)
  have hpl := plain_law hf1 (by omega) hcl
  generalize (cells.getD (Int.toNat 0) 0).fmod 11 = c at *
  obtain ⟨hs1, hs2⟩ := hsb
  with_unfolding_all refine' spots_call ?k1 ?k2 ?k3 (isList_mem cN ?m1) ?i1 ?z1 hs1 hs2 ?_
  case k1 => exact Frag.In.keeps (by with_reducible assumption) cF.keep
  case k2 => exact Top.keeps (by with_reducible assumption) cF.keep
  case k3 => walk_at "mine room"
  case m1 => walk_at "mine mem"
  case i1 => with_reducible assumption
  case z1 => omega
  intro a vs n objs h9 tk9 kp9 hleft ha hsp
  refine fun (hz9 : _ ≤ _) => ?_
  dsimp only at hz9
  have F9 := Fr.grownK cF kp9
  obtain ⟨T0, N9, hsa, hsv⟩ := gen_spots (news_left cF cN kp9 hleft) ha hsp
  clear kp9 hleft ha hsp cF cN
  (try dsimp only)
  walk1
  refine fun (hz9 : _ ≤ _) => ?_
  dsimp only at hz9
  (try dsimp only)
  rename News _ _ _ _ => cN
  rename Fr _ _ _ _ => cF
  with_unfolding_all refine' law_rest ?X1 ?T1 cF cN hsa hsv ?l1 ?z2 hs1 hs2 hpl.1 hpl.2.1 hpl.2.2 ?q1 ?e1
  case X1 => with_reducible assumption
  case T1 => with_reducible assumption
  case l1 => rw [List.length_map]; exact hcl
  case z2 => walk_at "mine pos"
  case q1 =>
    intro h' tk m' news' F' N'
    clear cF cN hsa hsv
    (try dsimp only)
    k_steps
  case e1 => passes_own)
end Mine
set_option maxRecDepth 100000 in
set_option maxHeartbeats 8000000 in
theorem PySem.Challenge.cw_pe0059_01_holds : PySem.Challenge.rw_pe0059_01.Holds := by
  exact Mine.law_holds
