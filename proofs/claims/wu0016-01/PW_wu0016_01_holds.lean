import PyProof.Rows.All
import Wide.All
import OpenK.AllK
import Wide.FinOn
import Flt.Reg
import Lean
import PySem.Challenge.RW_wu0016_01
open PySem PySem.W PyProof.Rows
set_option Elab.async false
set_option maxRecDepth 100000
set_option maxHeartbeats 8000000
set_option compiler.extract_closed false
namespace Mine
noncomputable abbrev heapT (K : Params → Frag) : Params → Frag := fun P => (62, { cls := .none, data := .fields #[] }) :: K P
local macro_rules | `(tactic| o_head (kHook $k $a $_)) => `(tactic| o_head ((kHook (heapT $k) (62 :: $a) (fun _ => by kernel_rfl))))
open_top hd for PySem.Challenge.rw_wu0016_01
abbrev Pg : Program := RowW.prog (OpenRow.toRowW (OpenLaw.row PySem.Challenge.rw_wu0016_01))

noncomputable abbrev Tp (mg mb : Str → Option Value) (h : Heap) : Prop := TopRead hd.view_39 (looseW hd.view_39 [Str.ofString "_Accumulator"]) mg mb h
structure Ok (w : World) (mg mb : Str → Option Value) (h : Heap) : Prop where
  x : Frag.In (Mine.hd.heap_39 w.params) h
  t : Tp mg mb h
theorem Ok.keeps {w mg mb} {h h' : Heap} (G : Ok w mg mb h) (k : ∀ b o, h.get? b = some o → h'.get? b = some o) : Ok w mg mb h' := ⟨G.x.keeps k, G.t.keeps k⟩

section
variable {prog : Program} {w : World} {A : Around} {s : Shared} {K : Frag} {R : Result → Shared → Prop}
theorem enter_ {mo : List (Addr × Obj)} {name qual : Str} {params : Arguments} {body : List Stmt} {scope : Scope} {dV kV doc pm cdv ct oc : Value} {an od : Option Addr} {osl : Array (Option Value)} {f : Addr} {args : Args} {binds : List (Str × Value)}
    (X : K.In (hideAll s.heap (mo.map (·.1)))) (hlim : (hideAll s.heap (mo.map (·.1))).NoLimit) (hm : ∀ p ∈ mo, s.heap.get? p.1 = some p.2)
    (ho : K.lookup f = some ⟨oc, od, .func (fnOf name qual params body scope dV kV doc pm an cdv ct), osl⟩) (hcd : codeIn K cdv qual = true) (hroom : A.depth < recursionLimit)
    (hbind : BindsTo s (fnOf name qual params body scope dV kV doc pm an cdv ct) args binds) (hloc : ∀ y ∈ binds, scope.names.lookup y.1 = some .local)
    (h : ∀ g h₁, (∀ b o, s.heap.get? b = some o → b ∉ mo.map (·.1) → g.get? b = some o) → K.In g → g = hideAll s.heap (mo.map (·.1)) → Fr g s.heap.objs.size h₁ (fun y => binds.reverse.lookup y) → News g s.heap.objs.size h₁ mo →
      wpAny (model prog w) (A.deeper (envOf qual scope s.heap.objs.size f cdv)) (execs body (envOf qual scope s.heap.objs.size f cdv))
        (fun fl s' => R (.ok (.ret (match fl with | .ret v => v | _ => .none))) s')
        (fun e s' => wpAny (model prog w) (A.deeper (envOf qual scope s.heap.objs.size f cdv)) (leaving (envOf qual scope s.heap.objs.size f cdv) e) (fun _ s'' => R (.error e) s'') (fun e' s'' => R (.error e') s'') s')
        { s with heap := h₁, toks := s.toks + binds.length })
    (hco : scope.isCoroutine = false := by rfl) (hgen : scope.isGenerator = false := by rfl) (hk : scope.kind = .function := by rfl)
    (hcell : ∀ x ∈ scope.names, x.2 ≠ .cell := by decide) : codeAny (model prog w) A (.call (.ref f) args) R s := by
  have up : ∀ b o, (hideAll s.heap (mo.map (·.1))).get? b = some o → s.heap.get? b = some o := fun b o e => of_hideAll _ e
  refine codeAny_call_def (fd := fnOf name qual params body scope dV kV doc pm an cdv ct) (body := body) (binds := binds) hroom (up _ _ (X _ _ ho)) rfl (hlim.keeps up) ((codeRec_of X hcd).keeps up) rfl hbind hcell hloc (fun h₁ hns hk₁ => ?_) hco hgen hk
  refine h _ h₁ (fun b o e n => hideAll_get _ e n) X rfl ⟨hns, fun b o e => hk₁ b o (of_hideAll _ e), Nat.le_of_eq (hideAll_size _ _)⟩ ?_
  intro p hp
  exact ⟨hk₁ _ _ (hm p hp), Nat.ne_of_lt (Heap.lt_size (hm p hp)), hideAll_none _ (List.mem_map_of_mem hp)⟩
end
theorem fill_all : PySem.Challenge.rw_wu0016_01 = PySem.Challenge.rw_wu0016_01 ∧ hd.heap_39 = hd.heap_39 := by k_fill; exact ⟨rfl, rfl⟩
noncomputable def fgt (a b : UInt64) : Bool := Float64.cmp a b == some Ordering.gt
noncomputable def flt (a b : UInt64) : Bool := Float64.cmp a b == some Ordering.lt
noncomputable def feq (a b : UInt64) : Bool := Float64.cmp a b == some Ordering.eq
noncomputable def fmax3 (a b c : UInt64) : UInt64 := if fgt c (if fgt b a then b else a) then c else if fgt b a then b else a
noncomputable def fmin3 (a b c : UInt64) : UInt64 := if flt c (if flt b a then b else a) then c else if flt b a then b else a
section
variable {prog : Program} {w : World} {A : Around} {E : Value → Shared → Prop} {s : Shared}
noncomputable def bitsAt (a b c : UInt64) : Nat → UInt64 | 0 => a | 1 => b | _ => c
theorem three_at {a b c : UInt64} {t u v : Tok} {i : Nat} {x : Value} (h : (#[Value.float a (t + 1), .float b (u + 1), .float c (v + 1)] : Array Value)[i]? = some x) : ∃ t, x = .float (bitsAt a b c i) (t + 1) := by
  match i, h with
  | 0, h => exact ⟨t, by simpa [bitsAt] using h.symm⟩
  | 1, h => exact ⟨u, by simpa [bitsAt] using h.symm⟩
  | 2, h => exact ⟨v, by simpa [bitsAt] using h.symm⟩
  | n + 3, h => simp at h
theorem three_gt {a b c : UInt64} {t u v : Tok} :
    CmpOf prog w A .Gt (fun i x => (#[Value.float a (t + 1), .float b (u + 1), .float c (v + 1)] : Array Value)[i]? = some x) (fun i j => fgt (bitsAt a b c i) (bitsAt a b c j)) := fun i j vi vj s Q E hi hj h => by
  obtain ⟨t', rfl⟩ := three_at hi
  obtain ⟨u', rfl⟩ := three_at hj
  exact AutoFloatOps.gt_0 h
theorem three_lt {a b c : UInt64} {t u v : Tok} :
    CmpOf prog w A .Lt (fun i x => (#[Value.float a (t + 1), .float b (u + 1), .float c (v + 1)] : Array Value)[i]? = some x) (fun i j => flt (bitsAt a b c i) (bitsAt a b c j)) := fun i j vi vj s Q E hi hj h => by
  obtain ⟨t', rfl⟩ := three_at hi
  obtain ⟨u', rfl⟩ := three_at hj
  exact AutoFloatOps.lt_0 h
theorem three_walk (hh : A.handled = none) {a b c : Value} {Q : Value → Shared → Prop} {E : Value → Shared → Prop} {P : Nat → Value → Prop} {bt : Nat → Nat → Bool} {op : CmpOp} (hP : ∀ i x, (#[a, b, c] : Array Value)[i]? = some x → P i x)
    (hC : CmpOf prog w A.in1 op P bt)
    (h : ∀ v h' tk, (#[a, b, c] : Array Value)[argBest bt 2]? = some v → (∀ d o, s.heap.get? d = some o → h'.get? d = some o) → Q v { s with heap := h', toks := tk }) :
    wpAny (model prog w) A.in1 (pyIter (.ref s.heap.objs.size)) (fun it s₂ => ∃ I fp wr n P St bt, it = .ref I ∧ Walks prog w A.in1 I fp wr n P St ∧ St 0 s₂.heap ∧ (∀ b ∈ fp, b < s₂.heap.objs.size) ∧ 0 < n ∧ CmpOf prog w A.in1 op P bt ∧
      ∀ v h' tk, P (argBest bt (n - 1)) v → (∀ b o, b ∉ wr → s₂.heap.get? b = some o → h'.get? b = some o) → Q v { s₂ with heap := h', toks := tk }) E
      { s with heap := s.heap.push { cls := .type "tuple", data := .seq #[a, b, c] } } := by
  have hT : (s.heap.push { cls := .type "tuple", data := .seq #[a, b, c] }).IsTuple s.heap.objs.size #[a, b, c] := ⟨_, Heap.get?_push_size _ rfl, rfl, 0, rfl⟩
  refine wpAny_pyIter_tuple hT ?_
  have hsz : (s.heap.push { cls := .type "tuple", data := .seq #[a, b, c] }).objs.size = s.heap.objs.size + 1 := Heap.size_push ..
  refine ⟨_, [_, s.heap.objs.size], [_], _, _, _, bt, rfl, Walks.tuple (A := A.in1) hh _ s.heap.objs.size (by rw [hsz]; exact Nat.ne_of_lt (Nat.lt_succ_self _)) #[a, b, c],
    ⟨⟨_, Heap.get?_push_size _ rfl, rfl, rfl⟩, hT.push _⟩, fun d hd => ?_, by simp, fun i j vi vj s Q E hi hj hQ => hC i j vi vj s Q E (hP _ _ hi) (hP _ _ hj) hQ, fun v h' tk hP hk => ?_⟩
  · show d < ((s.heap.push _).push _).objs.size
    rw [Heap.size_push, hsz]
    rcases List.mem_cons.mp hd with rfl | hd
    · rw [hsz]; exact Nat.lt_succ_self _
    · rcases List.mem_cons.mp hd with rfl | hd
      · exact Nat.lt_succ_of_lt (Nat.lt_succ_self _)
      · cases hd
  · refine h v h' tk (by simpa using hP) fun d o e => hk d o (fun hm => ?_) (Heap.get?_push_of_some _ (Heap.get?_push_of_some _ e))
    rcases List.mem_cons.mp hm with e1 | hm
    · have := Heap.lt_size e; rw [e1, hsz] at this; exact Nat.lt_irrefl _ (Nat.lt_of_succ_lt this)
    · cases hm
theorem max_three_f {a b c : UInt64} {t u x : Tok} {Q : Value → Shared → Prop} {h₀ : Heap} {L : Addr} {m : Str → Option Value} {news : List (Addr × Obj)} (hh : A.handled = none) (F : Fr h₀ L s.heap m) (N : News h₀ L s.heap news)
    (h : ∀ h' tk t, Fr h₀ L h' m → News h₀ L h' news → Q (.float (fmax3 a b c) (t + 1)) { s with heap := h', toks := tk }) :
    wpAny (model prog w) A (call (.builtin "max") [.float a (t + 1), .float b (u + 1), .float c (x + 1)]) Q E s := by
  refine call_max_three (three_walk hh (fun _ _ e => e) three_gt fun v h' tk hv hk => ?_)
  have F' : Fr h₀ L h' m := ⟨F.ns.keeps hk, fun b o e => hk _ _ (F.keep b o e), F.above⟩
  have N' : News h₀ L h' news := fun p hp => ⟨hk _ _ (N p hp).1, (N p hp).2⟩
  obtain ⟨t', rfl⟩ := three_at hv
  have e : bitsAt a b c (argBest (fun i j => fgt (bitsAt a b c i) (bitsAt a b c j)) 2) = fmax3 a b c := by
    clear hv
    cases h1 : fgt b a <;> cases h2 : fgt c a <;> cases h3 : fgt c b <;> simp [argBest, bitsAt, fmax3, h1, h2, h3]
  rw [e]
  exact h h' tk t' F' N'
theorem min_three_f {a b c : UInt64} {t u x : Tok} {Q : Value → Shared → Prop} {h₀ : Heap} {L : Addr} {m : Str → Option Value} {news : List (Addr × Obj)} (hh : A.handled = none) (F : Fr h₀ L s.heap m) (N : News h₀ L s.heap news)
    (h : ∀ h' tk t, Fr h₀ L h' m → News h₀ L h' news → Q (.float (fmin3 a b c) (t + 1)) { s with heap := h', toks := tk }) :
    wpAny (model prog w) A (call (.builtin "min") [.float a (t + 1), .float b (u + 1), .float c (x + 1)]) Q E s := by
  refine call_min_three (three_walk hh (fun _ _ e => e) three_lt fun v h' tk hv hk => ?_)
  have F' : Fr h₀ L h' m := ⟨F.ns.keeps hk, fun b o e => hk _ _ (F.keep b o e), F.above⟩
  have N' : News h₀ L h' news := fun p hp => ⟨hk _ _ (N p hp).1, (N p hp).2⟩
  obtain ⟨t', rfl⟩ := three_at hv
  have e : bitsAt a b c (argBest (fun i j => flt (bitsAt a b c i) (bitsAt a b c j)) 2) = fmin3 a b c := by
    clear hv
    cases h1 : flt b a <;> cases h2 : flt c a <;> cases h3 : flt c b <;> simp [argBest, bitsAt, fmin3, h1, h2, h3]
  rw [e]
  exact h h' tk t' F' N'
end
section
variable {prog : Program} {w : World} {A : Around} {E : Value → Shared → Prop} {s : Shared} {env : Env} {g : Heap} {L : Addr} {m : Str → Option Value} {news : List (Addr × Obj)}
theorem storeL {x : Str} {v : Value} {Q : Unit → Shared → Prop} (F : Fr g L s.heap m) (N : News g L s.heap news)
    (h : ∀ h', (∀ b o, b ≠ L → s.heap.get? b = some o → h'.get? b = some o) → Fr g L h' (fun y => if y = x then some v else m y) → News g L h' news → Q () { s with heap := h', toks := s.toks + 1 })
    (hL : env.locals = L := by rfl) (hl : env.kindOf x = some .local := by rfl) (hp : (env.scope.kind == .class || (env.scope.kind == .module && env.locals != env.globals)) = false := by rfl) :
    wpAny (model prog w) A (storeName env x v) Q E s := by
  subst hL
  refine wpAny_storeName_local hl F.ns (fun h' hn hs => ?_) hp
  have k : ∀ b o, b ≠ env.locals → s.heap.get? b = some o → h'.get? b = some o := fun b o hb e => hs.extBut b o hb e
  exact h h' k ⟨hn, fun b o e => k b o (Nat.ne_of_lt (Nat.lt_of_lt_of_le (Heap.lt_size e) F.above)) (F.keep b o e), F.above⟩ fun p hp => ⟨k _ _ (N p hp).2.1 (N p hp).1, (N p hp).2⟩
end
local macro_rules | `(tactic| walk_at $s:str) => `(tactic| k_extra $s)
theorem words_p03_0 : True := by
  k_with "storeName" => ((with_reducible show wpAny _ _ (storeName _ (Str.ofString "v") _) _ _ _); (rename Fr _ _ _ _ => F'); (rename News _ _ _ _ => N'); refine storeL F' N' ?_; clear F' N'; intro _ kL' _ _; clear kL')
  trivial
theorem nil_st {prog : Program} {w : World} {A : Around} {E : Value → Shared → Prop} {s : Shared} {env : Env} {Q : Flow → Shared → Prop} (h : Q .next s) : wpAny (model prog w) A (execs [] env) Q E s := by
  rw [execs_nil]; exact wpAny_pure h
theorem words_p03_1 : True := by
  k_with "execs nil" => ((with_reducible show wpAny _ _ (execs [] (envOf (Str.ofString "rgb_to_hsv") _ _ _ _)) _ _ _); refine nil_st ?_; (try dsimp only))
  trivial
theorem words_p03_2 : True := by
  k_with "execs cons" => ((with_reducible show wpAny _ _ (execs (Stmt.Assign [Expr.Name (Str.ofString "s") _] _ _ :: _) _) _ _ _); refine wpAny_execs_cons ?_; (try dsimp only))
  trivial
abbrev Ar (dp : Nat) (fr : Option (List Env)) (gd : Option (List Code)) (un : Nat) : Around := { handled := none, depth := dp, frames := fr, guards := gd, units := un }
theorem div_nz {prog : Program} {w : World} {A : Around} {E : Value → Shared → Prop} {s : Shared} {a b : UInt64} {t u : Tok} {Q : Value → Shared → Prop} (hb : Float64.isZero b = false) (h : Q (.float (Float64.div a b) s.toks) { s with toks := s.toks + 1 }) :
    wpAny (model prog w) A (binaryOp .Div (.float a t) (.float b u)) Q E s := AutoFloatOps.truediv_1 (by rw [hb]; exact Bool.false_ne_true) h
theorem mod_nz {prog : Program} {w : World} {A : Around} {E : Value → Shared → Prop} {s : Shared} {a b : UInt64} {t u : Tok} {Q : Value → Shared → Prop} (hb : Float64.isZero b = false) (h : Q (.float (Float64.divmod a b).snd s.toks) { s with toks := s.toks + 1 }) :
    wpAny (model prog w) A (binaryOp .Mod (.float a t) (.float b u)) Q E s := AutoFloatOps.mod_1 (by rw [hb]; exact Bool.false_ne_true) h
theorem eq_f {prog : Program} {w : World} {A : Around} {E : Value → Shared → Prop} {s : Shared} {a b : UInt64} {t u : Tok} {Q : Value → Shared → Prop} (h : Q (.bool (feq a b)) s) :
    wpAny (model prog w) A (compareOp .Eq (.float a t) (.float b u)) Q E s := AutoFloatOps.eq_0 h
theorem words_p03_3 : True := by
  k_with "mine enter" => ((case k1 => assumption); (case k2 => exact TopRead.nolimit (by assumption)); (case k3 => exact List.forall_mem_nil _); (case k4 => k_is); (case k5 => k_is); (case k6 => (try dsimp only); omega); (case k7 => exact BindsTo.of_eq rfl); (case k8 => exact locs rfl); (case c1 => exact rfl); (case c2 => exact rfl); (case c3 => exact rfl); (case c4 => decide))
  trivial
theorem words_p03_4 : True := by
  k_with "mine enter2" => ((case k1 => assumption); (case k2 => exact TopRead.nolimit (by assumption)); (case k4 => k_is); (case k5 => k_is); (case k6 => (try dsimp only); omega); (case k7 => first | exact BindsTo.of_eq rfl | exact binds_K (by assumption) rfl (by k_is) rfl rfl rfl); (case k8 => exact locs rfl); (case c1 => exact rfl); (case c2 => exact rfl); (case c3 => exact rfl); (case c4 => decide))
  trivial
theorem words_p03_5 : True := by
  k_with "call builtin:max" => ((with_reducible show wpAny _ _ (call _ [Value.float _ _, Value.float _ _, Value.float _ _]) _ _ _); (rename News _ _ _ _ => N'); (rename Fr _ _ _ _ => F'); refine max_three_f rfl F' N' ?_; clear N' F'; intro _ _ _ _ _)
  trivial
theorem words_p03_6 : True := by
  k_with "call builtin:min" => ((with_reducible show wpAny _ _ (call _ [Value.float _ _, Value.float _ _, Value.float _ _]) _ _ _); (rename News _ _ _ _ => N'); (rename Fr _ _ _ _ => F'); refine min_three_f rfl F' N' ?_; clear N' F'; intro _ _ _ _ _)
  trivial
theorem words_p03_7 : True := by
  k_with "binaryOp Div float float" => (refine div_nz (by first | assumption | decide) ?_; try dsimp only)
  trivial
theorem words_p03_8 : True := by
  k_with "binaryOp Mod float float" => (refine mod_nz (by first | assumption | decide) ?_; try dsimp only)
  trivial
theorem words_p03_9 : True := by
  k_with "compareOp Eq float float" => (refine eq_f ?_; try dsimp only)
  trivial
noncomputable def six : UInt64 := 4618441417868443648
noncomputable def rgbS (x y z : UInt64) : UInt64 := Float64.div (Float64.sub (fmax3 x y z) (fmin3 x y z)) (fmax3 x y z)
noncomputable def rgbC (x y z c : UInt64) : UInt64 := Float64.div (Float64.sub (fmax3 x y z) c) (Float64.sub (fmax3 x y z) (fmin3 x y z))
noncomputable def rgbH (x y z : UInt64) : UInt64 := (Float64.divmod (Float64.div
  (if feq x (fmax3 x y z) = true then Float64.sub (rgbC x y z z) (rgbC x y z y)
   else if feq y (fmax3 x y z) = true then Float64.sub (Float64.add 4611686018427387904 (rgbC x y z x)) (rgbC x y z z)
   else Float64.sub (Float64.add 4616189618054758400 (rgbC x y z y)) (rgbC x y z x)) six) 4607182418800017408).snd
abbrev tup3 (a b c : UInt64) (t u v : Tok) : Obj := { cls := .type "tuple", data := .seq #[.float a t, .float b u, .float c v] }
theorem tup_eq {h : Heap} {a : Addr} {x y z x' y' z' : UInt64} {t u v : Tok} (e : h.get? a = some (tup3 x' y' z' t u v)) (hx : x' = x) (hy : y' = y) (hz : z' = z) : h.get? a = some (tup3 x y z t u v) := by subst hx hy hz; exact e
noncomputable def RgbOk (x y z : UInt64) : Prop := feq (fmin3 x y z) (fmax3 x y z) = false ∧ Float64.isZero (fmax3 x y z) = false ∧ Float64.isZero (Float64.sub (fmax3 x y z) (fmin3 x y z)) = false
section
variable {w : World} {mg mb : Str → Option Value} {dp un : Nat} {fr : Option (List Env)} {gd : Option (List Code)} {s : Shared} {Q E : Value → Shared → Prop}
theorem neg_ok {a : Int} {t : Tok} (G : Ok w mg mb s.heap) (hdp : dp + 10 < recursionLimit)
    (hQ : ∀ t' h' tk', (∀ b o, s.heap.get? b = some o → h'.get? b = some o) → Q (.int (-a) t') { s with heap := h', toks := tk' }) :
    wpAny (model Pg w) (Ar dp fr gd un) (call (.ref 125) [.int a t]) Q E s := by
  w_top on
  obtain ⟨X, T⟩ := G
  refine wpAny_call ?_
  k_dflt (refine' enter_ (mo := []) (binds := [("a", .int a t)]) (K := Mine.hd.heap_39 w.params) ?k1 ?k2 ?k3 ?k4 ?k5 ?k6 ?k7 ?k8 ?_ ?c1 ?c2 ?c3 ?c4; walk_at "mine enter")
  intro g h₁ hg X' hge F N
  have hg' : ∀ b o, s.heap.get? b = some o → g.get? b = some o := fun b o e => hg b o e (by simp)
  have T' := TopRead.keeps T hg'
  clear X T hg hge
  (try dsimp only)
  walk
  exact hQ _ _ _ fun b o e => F.keep b o (hg' b o e)
theorem imod_ok {a b : Int} {t u : Tok} (hb : 0 < b) (G : Ok w mg mb s.heap) (hdp : dp + 10 < recursionLimit)
    (hQ : ∀ t' h' tk', (∀ b o, s.heap.get? b = some o → h'.get? b = some o) → Q (.int (Int.fmod a b) t') { s with heap := h', toks := tk' }) :
    wpAny (model Pg w) (Ar dp fr gd un) (call (.ref 132) [.int a t, .int b u]) Q E s := by
  w_top on
  obtain ⟨X, T⟩ := G
  refine wpAny_call ?_
  k_dflt (refine' enter_ (mo := []) (binds := [("a", .int a t), ("b", .int b u)]) (K := Mine.hd.heap_39 w.params) ?k1 ?k2 ?k3 ?k4 ?k5 ?k6 ?k7 ?k8 ?_ ?c1 ?c2 ?c3 ?c4; walk_at "mine enter")
  intro g h₁ hg X' hge F N
  have hg' : ∀ b o, s.heap.get? b = some o → g.get? b = some o := fun b o e => hg b o e (by simp)
  have T' := TopRead.keeps T hg'
  clear X T hg hge
  (try dsimp only)
  walk
  rename Fr _ _ _ _ => F'
  exact hQ _ _ _ fun b o e => F'.keep b o (hg' b o e)
theorem rgb_ok {x y z : UInt64} {t u v : Tok} (ok : RgbOk x y z) (G : Ok w mg mb s.heap) (hdp : dp + 10 < recursionLimit)
    (hQ : ∀ a t1 t2 t3 h' tk', (∀ b o, s.heap.get? b = some o → h'.get? b = some o) → s.heap.get? a = none → h'.get? a = some (tup3 (rgbH x y z) (rgbS x y z) (fmax3 x y z) t1 (t2 + 1) (t3 + 1)) → Q (.ref a) { s with heap := h', toks := tk' }) :
    wpAny (model Pg w) (Ar dp fr gd un) (call (.ref 111) [.float x (t + 1), .float y (u + 1), .float z (v + 1)]) Q E s := by
  w_top on
  obtain ⟨X, T⟩ := G
  obtain ⟨h1, h2, h3⟩ := ok
  refine wpAny_call ?_
  k_dflt (refine' enter_ (mo := []) (binds := [("r", .float x (t + 1)), ("g", .float y (u + 1)), ("b", .float z (v + 1))]) (K := Mine.hd.heap_39 w.params) ?k1 ?k2 ?k3 ?k4 ?k5 ?k6 ?k7 ?k8 ?_ ?c1 ?c2 ?c3 ?c4; walk_at "mine enter")
  intro g h₁ hg X' hge F N
  have hg' : ∀ b o, s.heap.get? b = some o → g.get? b = some o := fun b o e => hg b o e (by simp)
  have hgn : ∀ b, g.get? b = none → s.heap.get? b = none := fun b e => by
    cases q : s.heap.get? b with
    | none => rfl
    | some o => rw [hg' b o q] at e; cases e
  have T' := TopRead.keeps T hg'
  clear X T hg hge
  (try dsimp only)
  walk
  all_goals (
    rename Fr _ _ _ _ => F'
    rename News _ _ _ _ => N'
    have P := N' _ (.head _)
    refine hQ _ _ _ _ _ _ (fun b o e => F'.keep b o (hg' b o e)) (hgn _ P.2.2) (tup_eq P.1 ?_ ?_ ?_) <;> first | rfl | (simp only [rgbH, rgbC, rgbS, six, if_true, if_false, Bool.false_eq_true, *]))
end
noncomputable def toI (x : UInt64) : Int := Flt.toInt Float64.truncOf x
section
variable {prog : Program} {w : World} {A : Around} {E : Value → Shared → Prop} {s : Shared} {x a : UInt64} {n : Int} {t u : Tok} {Q : Value → Shared → Prop}
theorem int_fin (hA : A.handled = none) (hf : Float64.isFinite x = true) (h : Q (.int (toI x) s.toks) { s with toks := s.toks + 1 }) :
    wpAny (model prog w) A (call (.type "int") [.float x t]) Q E s := Flt.call_int_float3 hA
    (fun hn => by rcases Flt.three x with ⟨hd, c⟩ | ⟨_, hd, c⟩ | ⟨sg, m, e, hd, c⟩ <;> simp_all [Float64.isNaN, Float64.isFinite])
    (fun hn => by rcases Flt.three x with ⟨hd, c⟩ | ⟨_, hd, c⟩ | ⟨sg, m, e, hd, c⟩ <;> simp_all [Float64.isInf, Float64.isFinite])
    (fun _ => h)
theorem sub_fi (hfit : n.natAbs < 2 ^ 1023) (h : Q (.float (Float64.sub a (Float64.ofInt n)) s.toks) { s with toks := s.toks + 1 }) : wpAny (model prog w) A (binaryOp .Sub (.float a t) (.int n u)) Q E s := sub_fi_fits hfit h
end
theorem words_p04_0 : True := by
  k_with "call type:int" => ((with_reducible show wpAny _ _ (call _ [Value.float _ _]) _ _ _); refine int_fin rfl (by assumption) ?_; try dsimp only)
  trivial
theorem words_p04_1 : True := by
  k_with "binaryOp Sub float int" => (refine sub_fi (by first | assumption | decide) ?_; try dsimp only)
  trivial
noncomputable def fone : UInt64 := 4607182418800017408
noncomputable def hsvI (h : UInt64) : Int := toI (Float64.mul h six)
noncomputable def hsvFr (h : UInt64) : UInt64 := Float64.sub (Float64.mul h six) (Float64.ofInt (hsvI h))
noncomputable def hsvP (s v : UInt64) : UInt64 := Float64.mul v (Float64.sub fone s)
noncomputable def hsvQ (h s v : UInt64) : UInt64 := Float64.mul v (Float64.sub fone (Float64.mul s (hsvFr h)))
noncomputable def hsvT (h s v : UInt64) : UInt64 := Float64.mul v (Float64.sub fone (Float64.mul s (Float64.sub fone (hsvFr h))))
noncomputable def hsvOf (h s v : UInt64) : UInt64 × UInt64 × UInt64 :=
  if Int.fmod (hsvI h) 6 = 0 then (v, hsvT h s v, hsvP s v)
  else if Int.fmod (hsvI h) 6 = 1 then (hsvQ h s v, v, hsvP s v)
  else if Int.fmod (hsvI h) 6 = 2 then (hsvP s v, v, hsvT h s v)
  else if Int.fmod (hsvI h) 6 = 3 then (hsvP s v, hsvQ h s v, v)
  else if Int.fmod (hsvI h) 6 = 4 then (hsvT h s v, hsvP s v, v)
  else (v, hsvP s v, hsvQ h s v)
noncomputable def HsvOk (h s : UInt64) : Prop := feq s 0 = false ∧ Float64.isFinite (Float64.mul h six) = true ∧ (toI (Float64.mul h six)).natAbs < 2 ^ 1023
section
variable {w : World} {mg mb : Str → Option Value} {dp un : Nat} {fr : Option (List Env)} {gd : Option (List Code)} {s : Shared} {Q E : Value → Shared → Prop}
theorem hsv_ok {x y z : UInt64} {t u v : Tok} (ok : HsvOk x y) (G : Ok w mg mb s.heap) (hdp : dp + 10 < recursionLimit)
    (hQ : ∀ a t1 t2 t3 h' tk', (∀ b o, s.heap.get? b = some o → h'.get? b = some o) → s.heap.get? a = none → h'.get? a = some (tup3 (hsvOf x y z).1 (hsvOf x y z).2.1 (hsvOf x y z).2.2 (t1 + 1) (t2 + 1) (t3 + 1)) → Q (.ref a) { s with heap := h', toks := tk' }) :
    wpAny (model Pg w) (Ar dp fr gd un) (call (.ref 118) [.float x t, .float y u, .float z (v + 1)]) Q E s := by
  w_top on
  obtain ⟨X, T⟩ := G
  obtain ⟨h1, h2, h3⟩ := ok
  unfold six at h2 h3
  refine wpAny_call ?_
  k_dflt (refine' enter_ (mo := []) (binds := [("h", .float x t), ("s", .float y u), ("v", .float z (v + 1))]) (K := Mine.hd.heap_39 w.params) ?k1 ?k2 ?k3 ?k4 ?k5 ?k6 ?k7 ?k8 ?_ ?c1 ?c2 ?c3 ?c4; walk_at "mine enter")
  intro g h₁ hg X' hge F N
  have hg' : ∀ b o, s.heap.get? b = some o → g.get? b = some o := fun b o e => hg b o e (by simp)
  have hgn : ∀ b, g.get? b = none → s.heap.get? b = none := fun b e => by
    cases q : s.heap.get? b with
    | none => rfl
    | some o => rw [hg' b o q] at e; cases e
  have T' := TopRead.keeps T hg'
  clear X T hg hge
  (try dsimp only)
  walk
  all_goals first
    | (rename Int.fmod _ _ = _ => hk
       rename Fr _ _ _ _ => F'
       rename News _ _ _ _ => N'
       have P := N' _ (.head _)
       refine hQ _ _ _ _ _ _ (fun b o e => F'.keep b o (hg' b o e)) (hgn _ P.2.2) (tup_eq P.1 ?_ ?_ ?_) <;> ((try simp only [hsvOf, hsvI, six, hk]); first | rfl | done))
    | (exfalso
       have b1 := Int.fmod_nonneg_of_pos (toI (Float64.mul x 4618441417868443648)) (show (0 : Int) < 6 by decide)
       have b2 := Int.fmod_lt_of_pos (toI (Float64.mul x 4618441417868443648)) (show (0 : Int) < 6 by decide)
       omega)
end
section
variable {w : World} {mg mb : Str → Option Value} {h₀ h h' : Heap} {L : Addr} {m : Str → Option Value} {news : List (Addr × Obj)}
theorem frK (F : Fr h₀ L h m) (k : ∀ b o, h.get? b = some o → h'.get? b = some o) : Fr h₀ L h' m := ⟨F.ns.keeps k, fun b o e => k _ _ (F.keep b o e), F.above⟩
theorem newsK (N : News h₀ L h news) (k : ∀ b o, h.get? b = some o → h'.get? b = some o) : News h₀ L h' news := fun p hp => ⟨k _ _ (N p hp).1, (N p hp).2⟩
theorem newsC {a : Addr} {o : Obj} (F : Fr h₀ L h m) (N : News h₀ L h news) (k : ∀ b o, h.get? b = some o → h'.get? b = some o) (hn : h.get? a = none) (ha : h'.get? a = some o) : News h₀ L h' ((a, o) :: news) := by
  intro p hp
  rcases List.mem_cons.mp hp with rfl | hp
  · refine ⟨ha, fun e => ?_, ?_⟩
    · obtain ⟨oL, _, _, hL, _⟩ := F.ns
      rw [← e] at hL; rw [hL] at hn; cases hn
    · cases q : h₀.get? a with
      | none => rfl
      | some o' => rw [F.keep _ _ q] at hn; cases hn
  · exact newsK N k p hp
theorem newsNe {a : Addr} (N : News h₀ L h news) (hn : h.get? a = none) : ∀ p ∈ news, p.1 ≠ a := fun p hp e => by
  have := (N p hp).1; rw [e, hn] at this; cases this
theorem Ok.hide (G : Ok w mg mb h₀) (k : ∀ b o, h₀.get? b = some o → h.get? b = some o) {as : List Addr} (n : ∀ a ∈ as, h₀.get? a = none) : Ok w mg mb (hideAll h as) :=
  G.keeps fun b o e => hideAll_get as (k b o e) fun hm => by rw [n b hm] at e; cases e
theorem okF (X : Frag.In (Mine.hd.heap_39 w.params) h₀) (T : Tp mg mb h₀) (F : Fr h₀ L h m) : Ok w mg mb h := Ok.keeps ⟨X, T⟩ F.keep
end
theorem keepMo {H g h' : Heap} {mo : List (Addr × Obj)} (hg : ∀ b o, H.get? b = some o → b ∉ mo.map (·.1) → g.get? b = some o) (hm : ∀ p ∈ mo, H.get? p.1 = some p.2) (F : Fr g L h' m) (hall : ∀ p ∈ mo, h'.get? p.1 = some p.2) :
    ∀ b o, H.get? b = some o → h'.get? b = some o := fun b o e => by
  by_cases hb : b ∈ mo.map (·.1)
  · obtain ⟨p, hp, rfl⟩ := List.mem_map.mp hb
    rw [hm p hp] at e; rw [← e]; exact hall p hp
  · exact F.keep b o (hg b o e hb)
theorem noneMo {H g : Heap} {mo : List (Addr × Obj)} (hg : ∀ b o, H.get? b = some o → b ∉ mo.map (·.1) → g.get? b = some o) {a : Addr} (ha : g.get? a = none) (hn : a ∉ mo.map (·.1)) : H.get? a = none := by
  cases q : H.get? a with
  | none => rfl
  | some o => rw [hg a o q hn] at ha; cases ha
noncomputable def quo (a b : Int) : UInt64 := Float64.ofFrac (decide (a < 0) != decide (b < 0)) a.natAbs b.natAbs
theorem div_ii_ {prog : Program} {w : World} {A : Around} {E : Value → Shared → Prop} {s : Shared} {a b : Int} {t u : Tok} {Q : Value → Shared → Prop} (hA : A.handled = none) (hb : 0 < b) (hfit : a.natAbs < 2 ^ 1023) (h : Q (.float (quo a b) s.toks) { s with toks := s.toks + 1 }) :
    wpAny (model prog w) A (binaryOp .Div (.int a t) (.int b u)) Q E s := Flt.div_ii_fits hA hfit (fun e => absurd e (by omega)) fun _ _ => h
noncomputable def half_ : UInt64 := 4602678819172646912
noncomputable def hueX (h : UInt64) (n : Int) : UInt64 := Float64.add (Float64.mul h (Float64.ofInt n)) half_
noncomputable def hueF (h : UInt64) (n : Int) : Int := Int.fmod (toI (hueX h n)) n
theorem ne_of_none_some' {h : Heap} {a b : Addr} {o : Obj} (x : h.get? a = none) (y : h.get? b = some o) : a ≠ b := fun e => by rw [e, y] at x; cases x
theorem lt_big {n : Int} (h0 : 0 ≤ n) (h : n < 100) : n.natAbs < 2 ^ 1023 := by
  have : (100 : Nat) ≤ 2 ^ 1023 := by decide +kernel
  omega
theorem words_p05_0 : True := by
  k_with "call ref" => ((with_reducible show wpAny _ _ (call (Value.ref 111) _) _ _ _); (rename News _ _ _ _ => N'); (rename Fr _ _ _ _ => F'); (with_unfolding_all refine' rgb_ok ?k1 ?k2 ?k3 ?_; (case k1 => assumption); (case k2 => exact okF (by assumption) (by assumption) F'); (case k3 => ((try dsimp only [Ar]); omega))); intro _ _ _ _ _ _ k' n' e'; (refine (fun _ _ _ => ?_) (newsC F' N' k' n' e') (newsNe N' n') (frK F' k')); clear k' n' e' N' F'; try dsimp only)
  trivial
theorem words_p05_1 : True := by
  k_with "call ref" => ((with_reducible show wpAny _ _ (call (Value.ref 118) _) _ _ _); (rename News _ _ _ _ => N'); (rename Fr _ _ _ _ => F'); (with_unfolding_all refine' hsv_ok ?k1 ?k2 ?k3 ?_; (case k1 => assumption); (case k2 => exact okF (by assumption) (by assumption) F'); (case k3 => ((try dsimp only [Ar]); omega))); intro _ _ _ _ _ _ k' n' e'; (refine (fun _ _ _ => ?_) (newsC F' N' k' n' e') (newsNe N' n') (frK F' k')); clear k' n' e' N' F'; try dsimp only)
  trivial
theorem words_p05_2 : True := by
  k_with "binaryOp Div int int" => (refine div_ii_ rfl (by first | assumption | decide | omega) (by first | assumption | decide +kernel) ?_; try dsimp only)
  trivial
section
variable {w : World} {mg mb : Str → Option Value} {dp un : Nat} {fr : Option (List Env)} {gd : Option (List Code)} {s : Shared} {Q E : Value → Shared → Prop} {h₀ : Heap}
theorem hue_ok {x y z : UInt64} {t u v q : Tok} {c : Addr} {n : Int} (ok : RgbOk x y z) (hn0 : 0 < n) (hn1 : n < 100) (hf : Float64.isFinite (hueX (rgbH x y z) n) = true) (G : Ok w mg mb h₀) (hk : ∀ b o, h₀.get? b = some o → s.heap.get? b = some o)
    (hc : s.heap.get? c = some (tup3 x y z (t + 1) (u + 1) (v + 1))) (hc0 : h₀.get? c = none) (hdp : dp + 20 < recursionLimit)
    (hQ : ∀ t' h' tk', (∀ b o, s.heap.get? b = some o → h'.get? b = some o) → Q (.int (hueF (rgbH x y z) n) t') { s with heap := h', toks := tk' }) :
    wpAny (model Pg w) (Ar dp fr gd un) (call (.ref 139) [.ref c, .int n q]) Q E s := by
  w_top on
  obtain ⟨X, T⟩ := Ok.hide G hk (as := [c]) (by simpa using hc0)
  unfold hueX half_ at hf
  have hbig := lt_big (Int.le_of_lt hn0) hn1
  refine wpAny_call ?_
  k_dflt (refine' enter_ (mo := [(c, tup3 x y z (t + 1) (u + 1) (v + 1))]) (binds := [("colour", .ref c), ("wheel", .int n q)]) (K := Mine.hd.heap_39 w.params) ?k1 ?k2 ?k3 ?k4 ?k5 ?k6 ?k7 ?k8 ?_ ?c1 ?c2 ?c3 ?c4; (case k3 => (intro p hp; rw [List.mem_singleton.mp hp]; exact hc)); walk_at "mine enter2")
  intro g h₁ hg X' hge F N
  have T' : Tp mg mb g := by rw [hge]; exact T
  clear X T hge hk G hc0
  (try dsimp only)
  walk
  rename Fr _ _ _ _ => F'
  rename News _ _ _ _ => N'
  exact hQ _ _ _ (keepMo hg (fun p hp => by rw [List.mem_singleton.mp hp]; exact hc) F' fun p hp => by rw [List.mem_singleton.mp hp]; exact (N' _ (.tail _ (.head _))).1)
theorem turned_ok {x y z : UInt64} {t u v q r : Tok} {c : Addr} {n st : Int} (ok : RgbOk x y z) (hn0 : 0 < n) (hs0 : 0 ≤ st) (hs1 : st < 100) (ok2 : HsvOk (Float64.add (rgbH x y z) (quo st n)) (rgbS x y z)) (G : Ok w mg mb h₀) (hk : ∀ b o, h₀.get? b = some o → s.heap.get? b = some o)
    (hc : s.heap.get? c = some (tup3 x y z (t + 1) (u + 1) (v + 1))) (hc0 : h₀.get? c = none) (hdp : dp + 20 < recursionLimit)
    (hQ : ∀ a t1 t2 t3 h' tk', (∀ b o, s.heap.get? b = some o → h'.get? b = some o) → s.heap.get? a = none →
      h'.get? a = some (tup3 (hsvOf (Float64.add (rgbH x y z) (quo st n)) (rgbS x y z) (fmax3 x y z)).1 (hsvOf (Float64.add (rgbH x y z) (quo st n)) (rgbS x y z) (fmax3 x y z)).2.1 (hsvOf (Float64.add (rgbH x y z) (quo st n)) (rgbS x y z) (fmax3 x y z)).2.2 (t1 + 1) (t2 + 1) (t3 + 1)) → Q (.ref a) { s with heap := h', toks := tk' }) :
    wpAny (model Pg w) (Ar dp fr gd un) (call (.ref 146) [.ref c, .int st r, .int n q]) Q E s := by
  w_top on
  obtain ⟨X, T⟩ := Ok.hide G hk (as := [c]) (by simpa using hc0)
  have hbig := lt_big hs0 hs1
  refine wpAny_call ?_
  k_dflt (refine' enter_ (mo := [(c, tup3 x y z (t + 1) (u + 1) (v + 1))]) (binds := [("colour", .ref c), ("steps", .int st r), ("wheel", .int n q)]) (K := Mine.hd.heap_39 w.params) ?k1 ?k2 ?k3 ?k4 ?k5 ?k6 ?k7 ?k8 ?_ ?c1 ?c2 ?c3 ?c4; (case k3 => (intro p hp; rw [List.mem_singleton.mp hp]; exact hc)); walk_at "mine enter2")
  intro g h₁ hg X' hge F N
  have T' : Tp mg mb g := by rw [hge]; exact T
  clear X T hge hk G hc0
  (try dsimp only)
  walk
  rename Fr _ _ _ _ => F'
  rename News _ _ _ _ => N'
  rename ∀ p ∈ [_, (c, _)], p.1 ≠ _ => d'
  have P := N' _ (.head _)
  refine hQ _ _ _ _ _ _ (keepMo hg (fun p hp => by rw [List.mem_singleton.mp hp]; exact hc) F' fun p hp => by rw [List.mem_singleton.mp hp]; exact (N' _ (.tail _ (.tail _ (.head _)))).1) (noneMo hg P.2.2 fun hm => ?_) P.1
  exact d' (c, _) (.tail _ (.head _)) (List.mem_singleton.mp hm).symm
end
abbrev winObj (d : Addr) (its : List Value) (ep : Nat) : Obj := { cls := .ref 100, dict := some d, data := .seq its.toArray ep }
abbrev szObj (hh : Int) (tk tz : Tok) (sz : Int) (n : Nat) : Obj := { cls := .type "dict", data := .dict [⟨hh, .str (Str.ofString "_initial_size") tk, .int sz tz⟩].toArray n }
section
variable {prog : Program} {w : World} {M : Model} {A : Around} {E : Value → Shared → Prop} {s : Shared} {K : Frag} {x d C : Addr} {ox : Obj} {od : Option Obj} {name : Str} {h : Heap} {its : List Value} {ep : Nat}
theorem win_at {ox : Obj} (hx : h.get? x = some (winObj d its ep)) (hd : h.get? d = some ox) : InstAt h x (winObj d its ep) 100 (some ox) := ⟨hx, rfl, rfl, hd⟩
theorem win_inst {od : Option Obj} (X : K.In h) (I : InstAt h x ox C od) (hm : mroIn K C (.type "list") = some true) : Looks M h (isInstance (.ref x) (.type "list")) true := (I.type).andThen (looks_mroIn X hm)
/-- a method of a base in C, asked of an object: the method form -/
theorem method_bi {f : Value} {t : Value} {ga : String} {pl : Sem Bool} {Q : Value × List Value → Shared → Prop} (X : K.In s.heap) (I : InstAt s.heap x ox C od) (hga : findIn K (.ref C) "__getattribute__" = some (some (.builtin ga))) (hcan : (Manifest.canonical ga != "object.__getattribute__") = false) (hk : findIn K (.ref C) "__getattr__" = some none)
    (hf : findIn K (.ref C) name = some (some f)) (ht : typeIn K f = some t) (htt : (t != .type "function" && t != .type "method_descriptor" && t != .type "wrapper_descriptor") = false) (hs : shadowIn od name = some false) (h : Q (f, [.ref x]) s) :
    wpAny (model prog w) A (getMethod (.ref x) name pl) Q E s := by
  unfold getMethod specialOf
  refine wpAny_bind (wpAny_bind (I.type.here ((looks_findIn X hga).here ?_)))
  dsimp only
  rw [hcan, if_neg (by decide)]
  refine wpAny_bind (wpAny_bind (I.type.here ((looks_findIn X hk).here ?_)))
  refine wpAny_bind (wpAny_bind (I.type.here ((looks_findIn X hf).here (wpAny_bind ((looks_typeIn X ht).here ?_)))))
  rw [if_neg (by rw [htt]; exact Bool.false_ne_true)]
  refine wpAny_bind (wpAny_loadPart I.at_ ?_)
  have hd := I.dict
  cases e : ox.dict with
  | none => exact wpAny_bind (wpAny_rule (wpAny_pure h))
  | some dx =>
    cases od with
    | none => rw [e] at hd; exact hd.elim
    | some o =>
      rw [e] at hd
      obtain ⟨r, a, b⟩ := Option.map_eq_some_iff.mp hs
      refine wpAny_bind (wpAny_bind (wpAny_loadPart hd ?_))
      rw [nsLook_of a]
      refine wpAny_pure ?_
      rw [b]
      exact wpAny_bind (wpAny_rule (wpAny_pure h))
/-- a built-in method called on an object of a class derived from its owner -/
theorem call_sub {id owner n : String} {b : Builtin} {self : Value} {rest : List Value} {Q : Value → Shared → Prop} (hk : builtinKind id = some .method ∨ builtinKind id = some .slot) (hs : splitId id = some (owner, n)) (hp : plainId id = true) (hb : entryFor table id = some b)
    (hi : Looks (model prog w) s.heap (isInstance self (.type owner)) true) (ha : argsOk id ⟨self :: rest, []⟩)
    (hc : wpAny (model prog w) A.in1 (b ⟨self :: rest, []⟩) (fun fin s' => ∃ v, fin = .done (.ret v) ∧ Q v s') E s) : wpAny (model prog w) A (call (.builtin id) (self :: rest)) Q E s := by
  refine wpAny_call (codeAny_call_builtin hp hb ?_)
  have hc' := wpAny_mono hc (Q' := fun fin s' => match fin with | .done f => (match (Except.ok f : Result) with | .ok (.ret v) => Q v s' | .ok _ => False | .error e => E e s') | .again c' => c'.quiet = true ∧ codeAny (model prog w) A c' (fun r s' => match r with | .ok (.ret v) => Q v s' | .ok _ => False | .error e => E e s') s')
    (fun fin s' h' => by obtain ⟨v, rfl, hv⟩ := h'; exact hv) (fun _ _ z => z)
  rcases hk with hk | hk
  · exact kfo_check hk hs hi ha hc'
  · exact check_slot hk hs hi ha hc'
theorem win_upd {f : Array Value → Array Value} {its' : List Value} (hx : h.get? x = some (winObj d its ep)) (hf : f its.toArray = its'.toArray) : ∃ ep', (h.update x (Obj.mapSeq f)).get? x = some (winObj d its' ep') := by
  have e : Obj.mapSeq f (winObj d its ep) = winObj d its' (if (f its.toArray).size == its.toArray.size then ep else ep + 1) := by
    simp only [Obj.mapSeq, hf]
  exact ⟨_, (Heap.get?_update_self _ hx (by rw [e]; rfl)).trans (by rw [e])⟩
theorem win_append {v : Value} {Q : Value → Shared → Prop} {od : Option Obj} (X : K.In s.heap) (I : InstAt s.heap x (winObj d its ep) 100 od) (hm : mroIn K 100 (.type "list") = some true) (hsz : its.length ≤ 1000)
    (hQ : ∀ h' ep', Heap.SameBut x s.heap h' → h'.get? x = some (winObj d (its ++ [v]) ep') → Q .none { s with heap := h' }) :
    wpAny (model prog w) A (call (.builtin "list.append") [.ref x, v]) Q E s := by
  have hbig : its.length ≤ sizeLine := by rw [sizeLine_eq]; omega
  refine call_sub (owner := "list") (n := "append") (.inl (by decide +kernel)) (by decide +kernel) slot_list_append.plain entry_list_append (win_inst X I hm) (args_list_append _ _) ?_
  show wpAny _ _ (updateSeq x (·.push v) >>= fun _ => ret .none) _ _ s
  refine wpAny_bind (wpAny_updateSeq I.at_ rfl ?_ (by simpa using hbig) (by simp; omega))
  obtain ⟨ep', e⟩ := win_upd (f := (·.push v)) (its' := its ++ [v]) I.at_ (by simp)
  exact wpAny_pure ⟨.none, rfl, hQ _ ep' (Heap.SameBut.update ..) e⟩
end
section
variable {w : World} {mg mb : Str → Option Value} {dp un : Nat} {fr : Option (List Env)} {gd : Option (List Code)} {s : Shared} {Q E : Value → Shared → Prop} {h₀ : Heap}
theorem push_ok {x d : Addr} {its : List Value} {ep n : Nat} {hh sz : Int} {kt tz t u : Tok} {p q : Str} (G : Ok w mg mb h₀) (hk : ∀ b o, h₀.get? b = some o → s.heap.get? b = some o)
    (hx : s.heap.get? x = some (winObj d its ep)) (hx0 : h₀.get? x = none) (hd : s.heap.get? d = some (szObj hh kt tz sz n)) (hd0 : h₀.get? d = none) (hxd : x ≠ d) (hdp : dp + 20 < recursionLimit) (hsz : its.length ≤ 1000)
    (hQ : ∀ a ep' h' tk', (∀ b o, b ≠ x → s.heap.get? b = some o → h'.get? b = some o) → s.heap.get? a = none → h'.get? x = some (winObj d (its ++ [.ref a]) ep') →
      h'.get? a = some { cls := .type "tuple", data := .seq #[.str p t, .str q u] } → Q .none { s with heap := h', toks := tk' }) :
    wpAny (model Pg w) (Ar dp fr gd un) (call (.ref 45) [.ref x, .str p t, .str q u]) Q E s := by
  w_top on
  obtain ⟨X, T⟩ := Ok.hide G hk (as := [x, d]) (by simp [hx0, hd0])
  have hmo : ∀ p' ∈ [(x, winObj d its ep), (d, szObj hh kt tz sz n)], s.heap.get? p'.1 = some p'.2 := fun p' hp => by
    rcases List.mem_cons.mp hp with rfl | hp
    · exact hx
    · rw [List.mem_singleton.mp hp]; exact hd
  refine wpAny_call ?_
  k_dflt (refine' enter_ (mo := [(x, winObj d its ep), (d, szObj hh kt tz sz n)]) (binds := [("self", .ref x), ("fws", .str p t), ("string", .str q u)]) (K := Mine.hd.heap_39 w.params) ?k1 ?k2 ?k3 ?k4 ?k5 ?k6 ?k7 ?k8 ?_ ?c1 ?c2 ?c3 ?c4; (case k3 => exact hmo); walk_at "mine enter2")
  intro g h₁ hg X' hge F N
  have T' : Tp mg mb g := by rw [hge]; exact T
  clear X T hge hk G hd0 hx0
  (try dsimp only)
  walk
  have I := win_at (N _ (.head _)).1 (N _ (.tail _ (.head _))).1
  k_dflt (refine' method_bi (K := Mine.hd.heap_39 w.params) ?k1 I ?k3 ?kc ?k4 ?k5 ?k6 ?k7 ?k8 ?_; (case k1 => exact X'.keeps F.keep); (case k3 => k_is); (case kc => decide +kernel); (case k4 => k_is); (case k5 => k_is); (case k6 => k_is); (case k7 => decide); (case k8 => rfl))
  try dsimp only
  walk
  rename Fr _ _ _ _ => F'
  rename News _ _ _ _ => N'
  have I' := win_at (N' _ (.tail _ (.head _))).1 (N' _ (.tail _ (.tail _ (.head _)))).1
  k_dflt (refine' win_append (X'.keeps F'.keep) I' ?k1 hsz ?_; (case k1 => k_is))
  intro h₂ ep' hs he
  try dsimp only
  walk
  have keep := keepMo hg hmo F' fun p' hp => (N' p' (.tail _ hp)).1
  obtain ⟨l1, l2⟩ := (by assumption : x < _ ∧ d < _)
  have P := N' _ (.head _)
  refine hQ _ ep' h₂ _ (fun b o hb e => (hs.2 b hb).trans (keep b o e)) (noneMo hg P.2.2 fun hm => ?_) he ((hs.2 _ (Ne.symm (Nat.ne_of_lt l1))).trans P.1)
  rcases List.mem_cons.mp hm with e | hm
  · exact Nat.ne_of_gt l1 e
  · exact Nat.ne_of_gt l2 (List.mem_singleton.mp hm)
end
section
variable {prog : Program} {w : World} {M : Model} {A : Around} {E : Value → Shared → Prop} {s : Shared} {K : Frag} {x d C : Addr} {od : Option Obj} {name : Str} {h : Heap} {its : List Value} {ep : Nat}
theorem special_bi {id : String} {ox : Obj} {args : List Value} {Q : Option Value → Shared → Prop} (X : K.In s.heap) (I : InstAt s.heap x ox C od) (hs : findIn K (.ref C) name = some (some (.builtin id))) (hb : bindSpecial (.builtin id) (.ref x) = pure (.builtin id, [.ref x]))
    (h : wpAny M A (call (.builtin id) (.ref x :: args)) (fun v => Q (some v)) E s) : wpAny M A (callSpecial? (.ref x) name args) Q E s := by
  unfold callSpecial? specialOf
  refine wpAny_bind (wpAny_bind (I.type.here ((looks_findIn X hs).here (wpAny_holding (wpAny_bind ?_)))))
  rw [hb]
  exact wpAny_pure (wpAny_bind (wpAny_mono h (fun _ _ z => wpAny_pure z) fun _ _ z => z))
theorem seqKey_no {ox : Obj} {k : Value} {nm : Str} {Q : Value → Shared → Prop} (X : K.In s.heap) (I : InstAt s.heap x ox C od) (hq : noSeq K C = true) (h : Q k s) : wpAny M A (sequenceKey (.ref x) k nm) Q E s := by
  unfold sequenceKey
  refine wpAny_bind (I.type.here ?_)
  refine wpAny_bind ((anyM_none X hq).here ?_)
  rw [if_pos (show (!false) = true from rfl)]
  exact wpAny_pure h
theorem slice_parts {sl : Addr} {vl vu : Value} {lo hi : Option Int} {Q : Value × Value × Value → Shared → Prop} (hS : s.heap.IsSliceOf sl vl vu .none) (pl : IsPart vl lo) (pu : IsPart vu hi) (h : Q (rawPart lo, rawPart hi, rawPart none) s) :
    wpAny M A (Builtin.List.listSliceParts (.ref sl)) Q E s := by
  obtain ⟨os, hos, hcs, hds⟩ := hS
  rw [listSliceParts_eq]
  refine wpAny_bind (wpAny_field hos hds (x := .none) rfl (wpAny_bind (wpAny_listPart .none ?_)))
  rw [if_neg (show ¬ ((rawPart none == rawInt 0) = true) from Bool.false_ne_true)]
  refine wpAny_bind (wpAny_field hos hds (x := vl) rfl (wpAny_bind (wpAny_listPart pl ?_)))
  exact wpAny_bind (wpAny_field hos hds (x := vu) rfl (wpAny_bind (wpAny_listPart pu (wpAny_pure h))))
theorem no_subscript {sl : Addr} {vl vu vs : Value} {Q : Option Int → Shared → Prop} (hS : s.heap.IsSliceOf sl vl vu vs) (h : Q none s) : wpAny M A (Builtin.List.listSubscript? (.ref sl)) Q E s := by
  obtain ⟨os, hos, hcs, hds⟩ := hS
  unfold Builtin.List.listSubscript?
  refine wpAny_bind (wpAny_specialOf (T := "slice") ⟨os, hos, hcs⟩ slice_no_index ?_)
  simp only [Option.isNone_none, if_true]
  exact wpAny_pure h
theorem slice_type {sl : Addr} {vl vu vs : Value} {Q : Value → Shared → Prop} (hS : s.heap.IsSliceOf sl vl vu vs) (h : Q (.type "slice") s) : wpAny M A (typeOf (.ref sl)) Q E s := by
  obtain ⟨os, hos, hcs, hds⟩ := hS
  exact wpAny_typeOf (T := "slice") ⟨os, hos, hcs⟩ h
theorem win_items {Q : Array Value → Shared → Prop} (I : InstAt s.heap x (winObj d its ep) 100 od) (h : Q its.toArray s) : wpAny M A (Builtin.List.listItems (.ref x)) Q E s := by
  unfold Builtin.List.listItems
  exact wpAny_bind (wpAny_seqItems I.at_ rfl (wpAny_pure h))
theorem lst_items {l : Addr} {new : List Value} {nn : Nat} {Q : Array Value → Shared → Prop} (hv : s.heap.get? l = some { cls := .type "list", data := .seq new.toArray nn }) (h : Q new.toArray s) : wpAny M A (Builtin.List.listItems (.ref l)) Q E s := by
  unfold Builtin.List.listItems
  exact wpAny_bind (wpAny_seqItems hv rfl (wpAny_pure h))
theorem all_items {l : Addr} {new : List Value} {nn : Nat} {msg : String} {Q : Array Value → Shared → Prop} (hv : s.heap.get? l = some { cls := .type "list", data := .seq new.toArray nn }) (h : Q new.toArray s) : wpAny M A (Builtin.List.listAllItems (.ref l) msg) Q E s := by
  unfold Builtin.List.listAllItems
  refine wpAny_bind (wpAny_typeOf (T := "list") ⟨_, hv, rfl⟩ ?_)
  rw [if_pos (by decide)]
  exact lst_items hv h
theorem win_getSlice {sl : Addr} {vl vu : Value} {lo hi : Option Int} {Q : Value → Shared → Prop} (X : K.In s.heap) (I : InstAt s.heap x (winObj d its ep) 100 od) (hq : noSeq K 100 = true) (hs : findIn K (.ref 100) "__getitem__" = some (some (.builtin "list.__getitem__"))) (hm : mroIn K 100 (.type "list") = some true)
    (hS : s.heap.IsSliceOf sl vl vu .none) (pl : IsPart vl lo) (pu : IsPart vu hi) (hsz : its.length ≤ 1000)
    (h : Q (.ref s.heap.objs.size) { s with heap := s.heap.push { cls := .type "list", data := .seq (slicePick its.toArray lo hi none) } }) : wpAny (model prog w) A (getItem (.ref x) (.ref sl)) Q E s := by
  have hbig : its.toArray.size ≤ sizeLine := by rw [sizeLine_eq, List.size_toArray]; lia
  unfold getItem
  refine wpAny_holding (wpAny_bind (seqKey_no X I hq ?_))
  refine wpAny_bind (special_bi X I hs (slot_list_getitem.bind _) (call_sub (owner := "list") (n := "__getitem__") (by decide +kernel) (by decide +kernel) slot_list_getitem.plain entry_list_getitem (win_inst X I hm) (args_list_getitem _ _) ?_))
  show wpAny _ _ (Builtin.List.listSubscript? (.ref sl) >>= _) _ _ s
  refine wpAny_bind (no_subscript hS ?_)
  show wpAny _ _ (typeOf (.ref sl) >>= _) _ _ s
  refine wpAny_bind (slice_type hS ?_)
  rw [if_neg (by decide)]
  refine wpAny_bind (slice_parts hS pl pu ?_)
  dsimp only
  refine wpAny_bind (win_items I ?_)
  refine wpAny_bind (wpAny_of_eq (sliceIndices_raw lo hi none its.toArray.size (fun e => nomatch e)) ?_)
  exact wpAny_bind (wpAny_newObj_type (wpAny_pure ⟨_, rfl, wpAny_pure h⟩) (Nat.le_trans (slicePick_size_le its.toArray lo hi none) hbig))
theorem win_subTail {vn : Str} {pn pos : Pos} {lower upper : Option Expr} {sl : Addr} {vl vu : Value} {lo hi : Option Int} {Q : Value → Shared → Prop} (X : K.In s.heap) (I : InstAt s.heap x (winObj d its ep) 100 od) (hq : noSeq K 100 = true) (hs : findIn K (.ref 100) "__getitem__" = some (some (.builtin "list.__getitem__"))) (hm : mroIn K 100 (.type "list") = some true)
    (hS : s.heap.IsSliceOf sl vl vu .none) (pl : IsPart vl lo) (pu : IsPart vu hi) (hsz : its.length ≤ 1000)
    (h : Q (.ref s.heap.objs.size) { s with heap := s.heap.push { cls := .type "list", data := .seq (slicePick its.toArray lo hi none) } }) : wpAny (model prog w) A (subscriptTail (.Name vn pn) (.Slice lower upper none pos) (.ref x) (.ref sl)) Q E s := by
  unfold subscriptTail getitemInPython specialOf
  refine wpAny_bind (wpAny_bind (wpAny_bind (I.type.here ((looks_findIn X hs).here ?_))))
  dsimp only
  refine wpAny_pure (wpAny_bind ?_)
  show wpAny _ _ (operate [.ref sl, .ref x] (getItem (.ref x) (.ref sl))) _ _ _
  refine wpAny_operate' (win_getSlice X I hq hs hm hS pl pu hsz ?_)
  exact wpAny_bind (wpAny_pure (wpAny_pure h))
/-- self[lo:hi] = v, v a plain list -/
theorem win_setSlice {sl vl' : Addr} {vl vu : Value} {lo hi : Option Int} {new its' : List Value} {nn : Nat} {Q : Unit → Shared → Prop} (X : K.In s.heap) (I : InstAt s.heap x (winObj d its ep) 100 od) (hq : noSeq K 100 = true) (hs : findIn K (.ref 100) "__setitem__" = some (some (.builtin "list.__setitem__"))) (hm : mroIn K 100 (.type "list") = some true)
    (hS : s.heap.IsSliceOf sl vl vu .none) (pl : IsPart vl lo) (pu : IsPart vu hi) (hv : s.heap.get? vl' = some { cls := .type "list", data := .seq new.toArray nn }) (hne : vl' ≠ x) (hsz : its.length ≤ 1000) (hsn : new.length ≤ 1000)
    (he : its.toArray.extract 0 (sliceBounds lo hi none its.length).1.toNat ++ new.toArray ++ its.toArray.extract (max (sliceBounds lo hi none its.length).1 (sliceBounds lo hi none its.length).2.1).toNat its.length = its'.toArray)
    (hQ : ∀ h' ep', Heap.SameBut x s.heap h' → h'.get? x = some (winObj d its' ep') → Q () { s with heap := h' }) :
    wpAny (model prog w) A (setItem (.ref x) (.ref sl) (.ref vl')) Q E s := by
  have hbig : its.toArray.size + new.toArray.size ≤ sizeLine := by rw [sizeLine_eq, List.size_toArray, List.size_toArray]; lia
  unfold setItem
  refine wpAny_holding (wpAny_bind (seqKey_no X I hq ?_))
  refine wpAny_bind (special_bi X I hs (slot_list_setitem.bind _) (call_sub (owner := "list") (n := "__setitem__") (by decide +kernel) (by decide +kernel) slot_list_setitem.plain entry_list_setitem (win_inst X I hm) (args_list_setitem _ _ _) ?_))
  show wpAny _ _ (Builtin.List.listSubscript? (.ref sl) >>= _) _ _ s
  refine wpAny_bind (no_subscript hS ?_)
  show wpAny _ _ (typeOf (.ref sl) >>= _) _ _ s
  refine wpAny_bind (slice_type hS ?_)
  rw [if_neg (by decide)]
  refine wpAny_bind (slice_parts hS pl pu ?_)
  dsimp only
  have hn : Builtin.List.listSameRef (.ref x) (.ref vl') = false := by simp [Builtin.List.listSameRef, Ne.symm hne]
  simp only [hn, Bool.false_eq_true, if_false]
  refine wpAny_bind (all_items hv ?_)
  refine wpAny_bind (win_items I ?_)
  refine wpAny_bind (wpAny_of_eq (sliceIndices_raw lo hi none its.toArray.size (fun e => nomatch e)) ?_)
  rw [if_pos (show ((sliceBounds lo hi none its.toArray.size).2.2 == 1) = true from rfl)]
  refine wpAny_bind (wpAny_rule ?_)
  rw [if_neg (by simp only [Builtin.List.listTooLong, decide_eq_true_eq]; lia)]
  show wpAny _ _ (updateSeq x (fun xs => xs.extract 0 (sliceBounds lo hi none its.toArray.size).1.toNat ++ new.toArray ++ xs.extract (max (sliceBounds lo hi none its.toArray.size).1 (sliceBounds lo hi none its.toArray.size).2.1).toNat xs.size) >>= _) _ _ s
  refine wpAny_bind (wpAny_updateSeq I.at_ rfl ?_ (by lia) (by simp only [Array.size_append, Array.size_extract, List.size_toArray] at *; rw [sizeLine_eq]; lia))
  obtain ⟨ep', e⟩ := win_upd (f := fun xs => xs.extract 0 (sliceBounds lo hi none its.toArray.size).1.toNat ++ new.toArray ++ xs.extract (max (sliceBounds lo hi none its.toArray.size).1 (sliceBounds lo hi none its.toArray.size).2.1).toNat xs.size) (its' := its') I.at_ he
  exact wpAny_bind (wpAny_letGo (wpAny_pure ⟨.none, rfl, wpAny_pure (hQ _ ep' (Heap.SameBut.update ..) e)⟩))
theorem he_pop (its : List Value) : its.toArray.extract 0 (sliceBounds (some 1) none none its.length).1.toNat ++ ([] : List Value).toArray ++ its.toArray.extract (max (sliceBounds (some 1) none none its.length).1 (sliceBounds (some 1) none none its.length).2.1).toNat its.length = (its.take 1).toArray := by
  have e : clipAt its.length (1 : Int) = min 1 its.length := clipAt_nat _ 1
  rw [sliceBounds_plain]
  simp only [Option.elim, e]
  cases its with
  | nil => simp
  | cons a r => simp; lia
theorem he_all (its new : List Value) : its.toArray.extract 0 (sliceBounds none none none its.length).1.toNat ++ new.toArray ++ its.toArray.extract (max (sliceBounds none none none its.length).1 (sliceBounds none none none its.length).2.1).toNat its.length = new.toArray := by
  rw [sliceBounds_plain]
  simp
theorem frS {g h h' : Heap} {L : Addr} {m : Str → Option Value} (F : Fr g L h m) (hs : Heap.SameBut x h h') (hxL : x ≠ L) (hg : g.get? x = none) : Fr g L h' m :=
  ⟨F.ns.sameBut hs (Ne.symm hxL), fun b o e => (hs.2 b (fun q => by rw [q, hg] at e; cases e)).trans (F.keep b o e), F.above⟩
end
section
variable {w : World} {mg mb : Str → Option Value} {dp un : Nat} {fr : Option (List Env)} {gd : Option (List Code)} {s : Shared} {Q E : Value → Shared → Prop} {h₀ : Heap}
theorem pop_ok {x d : Addr} {its : List Value} {ep n : Nat} {hh sz : Int} {kt tz t : Tok} (G : Ok w mg mb h₀) (hk : ∀ b o, h₀.get? b = some o → s.heap.get? b = some o)
    (hx : s.heap.get? x = some (winObj d its ep)) (hx0 : h₀.get? x = none) (hd : s.heap.get? d = some (szObj hh kt tz sz n)) (hd0 : h₀.get? d = none) (hdp : dp + 20 < recursionLimit) (hsz : its.length ≤ 1000)
    (hQ : ∀ a ep' h' tk', (∀ b o, b ≠ x → s.heap.get? b = some o → h'.get? b = some o) → s.heap.get? a = none → h'.get? x = some (winObj d (its.take 1) ep') →
      h'.get? a = some { cls := .type "list", data := .seq (its.drop 1).toArray } → Q (.ref a) { s with heap := h', toks := tk' }) :
    wpAny (model Pg w) (Ar dp fr gd un) (call (.ref 53) [.ref x, .int 1 t]) Q E s := by
  w_top on
  obtain ⟨X, T⟩ := Ok.hide G hk (as := [x, d]) (by simp [hx0, hd0])
  have hmo : ∀ p' ∈ [(x, winObj d its ep), (d, szObj hh kt tz sz n)], s.heap.get? p'.1 = some p'.2 := fun p' hp => by
    rcases List.mem_cons.mp hp with rfl | hp
    · exact hx
    · rw [List.mem_singleton.mp hp]; exact hd
  have XS := X.keeps (fun _ _ e => of_hideAll _ e)
  refine wpAny_call ?_
  k_dflt (refine' enter_ (mo := [(x, winObj d its ep), (d, szObj hh kt tz sz n)]) (binds := [("self", .ref x), ("i", .int 1 t)]) (K := Mine.hd.heap_39 w.params) ?k1 ?k2 ?k3 ?k4 ?k5 ?k6 ?k7 ?k8 ?_ ?c1 ?c2 ?c3 ?c4; (case k3 => exact hmo); walk_at "mine enter2")
  intro g h₁ hg X' hge F N
  have T' : Tp mg mb g := by rw [hge]; exact T
  clear X T hge hk G hd0 hx0
  (try dsimp only)
  walk
  have I := win_at (Heap.get?_push_of_some { cls := .type "slice", data := .fields #[.int 1 t, .none, .none] } (N _ (.head _)).1) (Heap.get?_push_of_some { cls := .type "slice", data := .fields #[.int 1 t, .none, .none] } (N _ (.tail _ (.head _))).1)
  k_dflt (refine' win_subTail (K := Mine.hd.heap_39 w.params) (lo := some 1) (hi := none) ?k1 I ?k2 ?k3 ?k4 ?k5 ?k6 ?k7 hsz ?_; (case k1 => exact (X'.keeps F.keep).keeps (fun _ _ e => Heap.get?_push_of_some _ e)); (case k2 => k_is); (case k3 => k_is); (case k4 => k_is); (case k5 => exact Heap.IsSliceOf.new ..); (case k6 => exact .int _ _); (case k7 => exact .none))
  rw [show slicePick its.toArray (some 1) none none = (its.drop 1).toArray from slicePick_from' its.toArray 1]
  have F2 := (F.push { cls := .type "slice", data := .fields #[.int 1 t, .none, .none] }).push { cls := .type "list", data := .seq (its.drop 1).toArray }
  have N2 := (N.push F { cls := .type "slice", data := .fields #[.int 1 t, .none, .none] }).push (F.push { cls := .type "slice", data := .fields #[.int 1 t, .none, .none] }) { cls := .type "list", data := .seq (its.drop 1).toArray }
  have lx : x < (h₁.push { cls := .type "slice", data := .fields #[.int 1 t, .none, .none] }).objs.size := Heap.lt_size (Heap.get?_push_of_some _ (N _ (.head _)).1)
  have ld : d < (h₁.push { cls := .type "slice", data := .fields #[.int 1 t, .none, .none] }).objs.size := Heap.lt_size (Heap.get?_push_of_some _ (N _ (.tail _ (.head _))).1)
  dsimp only
  generalize hh2 : ((h₁.push { cls := .type "slice", data := .fields #[.int 1 t, .none, .none] }).push { cls := .type "list", data := .seq (its.drop 1).toArray }) = h₂ at F2 N2 ⊢
  generalize hDD : (h₁.push { cls := .type "slice", data := .fields #[.int 1 t, .none, .none] }).objs.size = D at N2 lx ld ⊢
  generalize h₁.objs.size = D1 at N2
  clear hh2 hDD I F N
  walk
  rename Fr _ _ _ _ => F'
  rename News _ _ _ _ => N'
  rename _ ∧ _ ∧ _ ∧ _ => l1
  rename_i lv h3
  have hxN := N' _ (.tail _ (.tail _ (.tail _ (.head _))))
  have hdN := N' _ (.tail _ (.tail _ (.tail _ (.tail _ (.head _)))))
  have I := win_at (Heap.get?_push_of_some { cls := .type "slice", data := .fields #[.int 1 t, .none, .none] } hxN.1) (Heap.get?_push_of_some { cls := .type "slice", data := .fields #[.int 1 t, .none, .none] } hdN.1)
  k_dflt (refine' win_setSlice (K := Mine.hd.heap_39 w.params) (lo := some 1) (hi := none) (new := []) (nn := 0) ?k1 I ?k2 ?k3 ?k4 ?k5 ?k6 ?k7 ?k8 ?k9 hsz ?ka (he_pop its) ?_; (case k1 => exact (X'.keeps F'.keep).keeps (fun _ _ e => Heap.get?_push_of_some _ e)); (case k2 => k_is); (case k3 => k_is); (case k4 => k_is); (case k5 => exact Heap.IsSliceOf.new ..); (case k6 => exact .int _ _); (case k7 => exact .none); (case k8 => exact Heap.get?_push_of_some _ (N' _ (.head _)).1); (case k9 => exact Nat.ne_of_gt l1.2.2.1); (case ka => exact Nat.zero_le _))
  intro h₃ ep' hs hx3
  have F3 := frS (F'.push { cls := .type "slice", data := .fields #[.int 1 t, .none, .none] }) hs hxN.2.1 hxN.2.2
  have keep := keepMo hg hmo F' fun p' hp => (N' p' (.tail _ (.tail _ (.tail _ hp)))).1
  have hDN := N' _ (.tail _ (.head _))
  clear N' hxN hdN I F'
  dsimp only
  walk
  have up : ∀ b o, b ≠ x → h3.get? b = some o → h₃.get? b = some o := fun b o hb e => (hs.2 b hb).trans (Heap.get?_push_of_some _ e)
  refine hQ D ep' h₃ _ (fun b o hb e => up b o hb (keep b o e)) (noneMo hg hDN.2.2 fun hm => ?_) hx3 (up _ _ (Nat.ne_of_gt lx) hDN.1)
  rcases List.mem_cons.mp hm with e | hm
  · exact Nat.ne_of_gt lx e
  · exact Nat.ne_of_gt ld (List.mem_singleton.mp hm)
end
section
variable {prog : Program} {w : World} {M : Model} {A : Around} {E : Value → Shared → Prop} {s : Shared} {K : Frag} {x d C : Addr} {od : Option Obj} {name : Str} {h : Heap} {its : List Value} {ep : Nat}
theorem refuse_list (self : Value) : refuseLoop self "__setattr__" [.type "list", .type "object"] = pure () := by kernel_rfl
theorem win_setAttr {cd : ClassData} {v : Value} {es es' : List DictEntry} {n n' : Nat} {Q : Unit → Shared → Prop} (X : K.In s.heap) (I : InstAt s.heap x (winObj d its ep) 100 (some (dictOf es n))) (hc : clsIn K 100 = some cd) (hmro : cd.mro = [.ref 100, .type "list", .type "object"]) (hdict : cd.hasDict = true)
    (hs : findIn K (.ref 100) "__setattr__" = some (some (.builtin "object.__setattr__"))) (ht : findIn K (.ref 100) name = some none) (hl : (getL name es).isSome = true)
    (e : (putL name (PyData.keyHash w.params name) (.str name (s.toks + 1)) v es, putN name es n) = (es', n')) (hz : es'.length ≤ 1000)
    (hQ : ∀ h', Heap.SameBut d s.heap h' → h'.get? d = some (dictOf es' n') → Q () { s with heap := h', toks := s.toks + 2 }) :
    wpAny (model prog w) A (setAttr (.ref x) name v) Q E s := by
  have SF := PySem.F.store_object
  have hmem : cd.mro.contains (.type "object") = true := by rw [hmro]; decide
  have ne : cd.mro.isEmpty = false := by rw [hmro]; rfl
  obtain ⟨hh, gg, dr, tt, os⟩ := s
  have sub : Looks (model prog w) hh (isInstance (.ref x) (.type "object")) true := I.type.andThen (looks_mroIn X (by unfold mroIn; rw [hc, Option.bind_some, if_neg (by rw [ne]; decide), hmem]))
  have hm : Looks (model prog w) hh (mroOf (.ref 100)) cd.mro := (looks_clsIn X hc).andThen .now
  have D := I.dict
  refine set_plain X I hs ?_
  refine codeAny_call_builtin SF.slot.plain SF.entry (@check_slot (model prog w) _ _ ⟨hh, gg, dr, tt + 1, os⟩ "object.__setattr__" "object" "__setattr__" (.ref x) [.str name tt, v] [] _ SF.kind SF.split sub (SF.args (.ref x) (.str name tt) v) ?_)
  rw [osa_eq, refuse_eq]
  refine wpAny_bind (wpAny_bind (I.type.at (wpAny_bind (hm.at ?_))))
  rw [hmro, refuseLoop_ref, refuse_list]
  refine wpAny_pure (wpAny_bind (I.type.at (wpAny_bind ((looks_findIn X ht).at (wpAny_bind (wpAny_pure (a := none) ?_))))))
  dsimp only
  have hx := I.at_
  have e1 : putL name (PyData.keyHash w.params name) (.str name (tt + 1)) v es = es' := (Prod.mk.inj e).1
  have e2 : putN name es n = n' := (Prod.mk.inj e).2
  have ep := (putName_dict name (PyData.keyHash w.params name) (.str name (tt + 1)) v es n).trans (by rw [e1, e2])
  have D' : (Heap.update hh d (Obj.putName name (PyData.keyHash w.params name) (.str name (tt + 1)) v)).get? d = some (dictOf es' n') := (Heap.get?_update_self _ D (by rw [ep]; rfl)).trans (by rw [ep])
  refine wpAny_bind (wpAny_pure (wpAny_bind (wpAny_bind (wpAny_loadPart hx (wpAny_bind ((looks_clsIn X hc).at ?_))))))
  rw [hdict]
  refine wpAny_pure (a := some d) (wpAny_bind (wpAny_pure (wpAny_bind ?_)))
  unfold nsSet
  refine wpAny_bind (wpAny_bind (wpAny_askSetting (wpAny_pure (wpAny_bind (wpAny_mkText (wpAny_bind (wpAny_loadPart D ?_)))))))
  dsimp only
  have c : (!es.toArray.any (·.key.isStr name) && es.toArray.any (·.refKey)) = false := by
    unfold getL at hl
    rw [List.any_toArray, List.any_toArray]
    split at hl
    · rename_i en he
      rw [List.any_eq_true.mpr ⟨en, List.mem_of_find?_eq_some he, List.find?_some he⟩]; rfl
    · split at hl
      · cases hl
      · rename_i z; rw [Bool.not_eq_true] at z; rw [z, Bool.and_false]
  rw [aRefKeyMayBeTheName_at, c]
  refine wpAny_updatePart D ?_
  refine wpAny_bind (wpAny_lookBehind D' (pastItsLine_dict (by rw [List.size_toArray, sizeLine_eq]; omega)) ?_)
  exact wpAny_pure (hQ _ (Heap.SameBut.update ..) D')
end
theorem cls100 (w : World) : ∃ cd, clsIn (Mine.hd.heap_39 w.params) 100 = some cd ∧ cd.mro = [.ref 100, .type "list", .type "object"] ∧ cd.hasDict = true := by
  have e : ((clsIn (Mine.hd.heap_39 w.params) 100).map fun cd => (cd.mro, cd.hasDict)) = some ([.ref 100, .type "list", .type "object"], true) := by kernel_rfl
  obtain ⟨cd, h1, h2⟩ := Option.map_eq_some_iff.mp e
  exact ⟨cd, h1, (Prod.mk.inj h2).1, (Prod.mk.inj h2).2⟩
theorem put_sz {hh : Int} {tk : Tok} {hsh : Int} {key v v0 : Value} {n : Nat} : (putL (Str.ofString "_initial_size") hsh key v [⟨hh, .str (Str.ofString "_initial_size") tk, v0⟩], putN (Str.ofString "_initial_size") [⟨hh, .str (Str.ofString "_initial_size") tk, v0⟩] n) = ([⟨hh, .str (Str.ofString "_initial_size") tk, v⟩], n) := by
  simp [putL, putN, Value.isStr]
theorem get_sz {hh : Int} {tk : Tok} {v0 : Value} : getL (Str.ofString "_initial_size") [⟨hh, .str (Str.ofString "_initial_size") tk, v0⟩] = some (some v0) := by
  simp [getL, Value.isStr]
section
variable {w : World} {mg mb : Str → Option Value} {dp un : Nat} {fr : Option (List Env)} {gd : Option (List Code)} {s : Shared} {Q E : Value → Shared → Prop} {h₀ : Heap}
theorem reset_ok {x d l : Addr} {its new : List Value} {ep n nn : Nat} {hh sz : Int} {kt tz : Tok} (G : Ok w mg mb h₀) (hk : ∀ b o, h₀.get? b = some o → s.heap.get? b = some o)
    (hx : s.heap.get? x = some (winObj d its ep)) (hx0 : h₀.get? x = none) (hd : s.heap.get? d = some (szObj hh kt tz sz n)) (hd0 : h₀.get? d = none) (hl : s.heap.get? l = some { cls := .type "list", data := .seq new.toArray nn }) (hl0 : h₀.get? l = none) (hxl : x ≠ l) (hxd : x ≠ d) (hdl : d ≠ l)
    (hdp : dp + 20 < recursionLimit) (hsz : its.length ≤ 1000) (hsn : new.length ≤ 1000)
    (hQ : ∀ ep' tz' n' h' tk', (∀ b o, b ≠ x → b ≠ d → s.heap.get? b = some o → h'.get? b = some o) → h'.get? x = some (winObj d new ep') → h'.get? d = some (szObj hh kt tz' 0 n') → Q .none { s with heap := h', toks := tk' }) :
    wpAny (model Pg w) (Ar dp fr gd un) (call (.ref 82) [.ref x, .ref l]) Q E s := by
  w_top on
  obtain ⟨X, T⟩ := Ok.hide G hk (as := [x, d, l]) (by simp [hx0, hd0, hl0])
  have hmo : ∀ p' ∈ [(x, winObj d its ep), (d, szObj hh kt tz sz n), (l, { cls := .type "list", data := .seq new.toArray nn })], s.heap.get? p'.1 = some p'.2 := fun p' hp => by
    rcases List.mem_cons.mp hp with rfl | hp
    · exact hx
    rcases List.mem_cons.mp hp with rfl | hp
    · exact hd
    · rw [List.mem_singleton.mp hp]; exact hl
  have XS := X.keeps (fun _ _ e => of_hideAll _ e)
  refine wpAny_call ?_
  k_dflt (refine' enter_ (mo := [(x, winObj d its ep), (d, szObj hh kt tz sz n), (l, { cls := .type "list", data := .seq new.toArray nn })]) (binds := [("self", .ref x), ("startval", .ref l)]) (K := Mine.hd.heap_39 w.params) ?k1 ?k2 ?k3 ?k4 ?k5 ?k6 ?k7 ?k8 ?_ ?c1 ?c2 ?c3 ?c4; (case k3 => exact hmo); walk_at "mine enter2")
  intro g h₁ hg X' hge F N
  have T' : Tp mg mb g := by rw [hge]; exact T
  clear X T hge hk G hd0 hx0
  (try dsimp only)
  walk
  have hxN := N _ (.head _)
  have hdN := N _ (.tail _ (.head _))
  have I := win_at (Heap.get?_push_of_some { cls := .type "slice", data := .fields #[.none, .none, .none] } hxN.1) (Heap.get?_push_of_some { cls := .type "slice", data := .fields #[.none, .none, .none] } hdN.1)
  k_dflt (refine' win_setSlice (K := Mine.hd.heap_39 w.params) (lo := none) (hi := none) (new := new) (nn := nn) ?k1 I ?k2 ?k3 ?k4 ?k5 ?k6 ?k7 ?k8 ?k9 hsz ?ka (he_all its new) ?_; (case k1 => exact (X'.keeps F.keep).keeps (fun _ _ e => Heap.get?_push_of_some _ e)); (case k2 => k_is); (case k3 => k_is); (case k4 => k_is); (case k5 => exact Heap.IsSliceOf.new ..); (case k6 => exact .none); (case k7 => exact .none); (case k8 => exact Heap.get?_push_of_some _ (N _ (.tail _ (.tail _ (.head _)))).1); (case k9 => exact Ne.symm hxl); (case ka => exact hsn))
  intro h₃ ep' hs hx3
  have F3 := frS (F.push { cls := .type "slice", data := .fields #[.none, .none, .none] }) hs hxN.2.1 hxN.2.2
  have up : ∀ b o, b ≠ x → h₁.get? b = some o → h₃.get? b = some o := fun b o hb e => (hs.2 b hb).trans (Heap.get?_push_of_some _ e)
  have N3 : News g s.heap.objs.size h₃ [(x, winObj d new ep'), (d, szObj hh kt tz sz n), (l, { cls := .type "list", data := .seq new.toArray nn })] := by
    intro p hp
    rcases List.mem_cons.mp hp with rfl | hp
    · exact ⟨hx3, hxN.2⟩
    · refine ⟨up _ _ (fun e => ?_) (N p (.tail _ hp)).1, (N p (.tail _ hp)).2⟩
      rcases List.mem_cons.mp hp with rfl | hp
      · exact hxd e.symm
      · rw [List.mem_singleton.mp hp] at e; exact hxl e.symm
  have keep := keepMo hg hmo (F.push { cls := .type "slice", data := .fields #[.none, .none, .none] }) fun p' hp => Heap.get?_push_of_some _ (N p' hp).1
  clear N F I hxN hdN
  dsimp only
  walk
  have I := win_at (N3 _ (.head _)).1 (N3 _ (.tail _ (.head _))).1
  obtain ⟨cd, c1, c2, c3⟩ := cls100 w
  k_dflt (refine' win_setAttr (K := Mine.hd.heap_39 w.params) (X'.keeps F3.keep) I c1 c2 c3 ?k5 ?k6 ?k7 ?k8 ?k9 ?_; (case k5 => k_is); (case k6 => k_is); (case k7 => rw [get_sz]; rfl); (case k8 => exact put_sz); (case k9 => exact Nat.le_of_ble_eq_true rfl))
  intro h₄ hs4 hd4
  have F4 := frS F3 hs4 (N3 _ (.tail _ (.head _))).2.1 (N3 _ (.tail _ (.head _))).2.2
  have hx4 := (hs4.2 x hxd).trans (N3 _ (.head _)).1
  clear F3 N3 I
  dsimp only
  walk
  exact hQ ep' _ n h₄ _ (fun b o hb hbd e => (hs4.2 b hbd).trans ((hs.2 b hb).trans (keep b o e))) hx4 hd4
end
section
variable {w : World} {mg mb : Str → Option Value} {dp un : Nat} {fr : Option (List Env)} {gd : Option (List Code)} {s : Shared} {Q E : Value → Shared → Prop} {h₀ : Heap}
theorem reset0_ok {x d : Addr} {its : List Value} {ep n : Nat} {hh sz : Int} {kt tz : Tok} (G : Ok w mg mb h₀) (hk : ∀ b o, h₀.get? b = some o → s.heap.get? b = some o)
    (hx : s.heap.get? x = some (winObj d its ep)) (hx0 : h₀.get? x = none) (hd : s.heap.get? d = some (szObj hh kt tz sz n)) (hd0 : h₀.get? d = none) (hxd : x ≠ d)
    (hdp : dp + 20 < recursionLimit) (hsz : its.length ≤ 1000)
    (hQ : ∀ ep' tz' n' h' tk', (∀ b o, b ≠ x → b ≠ d → s.heap.get? b = some o → h'.get? b = some o) → h'.get? x = some (winObj d [] ep') → h'.get? d = some (szObj hh kt tz' 0 n') → Q .none { s with heap := h', toks := tk' }) :
    wpAny (model Pg w) (Ar dp fr gd un) (call (.ref 82) [.ref x]) Q E s := by
  w_top on
  obtain ⟨X, T⟩ := Ok.hide G hk (as := [x, d]) (by simp [hx0, hd0])
  have hmo : ∀ p' ∈ [(x, winObj d its ep), (d, szObj hh kt tz sz n)], s.heap.get? p'.1 = some p'.2 := fun p' hp => by
    rcases List.mem_cons.mp hp with rfl | hp
    · exact hx
    · rw [List.mem_singleton.mp hp]; exact hd
  have XS := X.keeps (fun _ _ e => of_hideAll _ e)
  refine wpAny_call ?_
  k_dflt (refine' enter_ (mo := [(x, winObj d its ep), (d, szObj hh kt tz sz n)]) (binds := [("self", .ref x), ("startval", .none)]) (K := Mine.hd.heap_39 w.params) ?k1 ?k2 ?k3 ?k4 ?k5 ?k6 ?k7 ?k8 ?_ ?c1 ?c2 ?c3 ?c4; (case k3 => exact hmo); walk_at "mine enter2")
  intro g h₁ hg X' hge F N
  have T' : Tp mg mb g := by rw [hge]; exact T
  clear X T hge hk G hd0 hx0
  (try dsimp only)
  walk
  rename Fr _ _ _ _ => F'
  rename News _ _ _ _ => N'
  obtain ⟨lx, ld⟩ := (by assumption : x < _ ∧ d < _)
  have hxN := N' _ (.tail _ (.head _))
  have hdN := N' _ (.tail _ (.tail _ (.head _)))
  have I := win_at (Heap.get?_push_of_some { cls := .type "slice", data := .fields #[.none, .none, .none] } hxN.1) (Heap.get?_push_of_some { cls := .type "slice", data := .fields #[.none, .none, .none] } hdN.1)
  k_dflt (refine' win_setSlice (K := Mine.hd.heap_39 w.params) (lo := none) (hi := none) (new := []) (nn := 0) ?k1 I ?k2 ?k3 ?k4 ?k5 ?k6 ?k7 ?k8 ?k9 hsz ?ka (he_all its []) ?_; (case k1 => exact (X'.keeps F'.keep).keeps (fun _ _ e => Heap.get?_push_of_some _ e)); (case k2 => k_is); (case k3 => k_is); (case k4 => k_is); (case k5 => exact Heap.IsSliceOf.new ..); (case k6 => exact .none); (case k7 => exact .none); (case k8 => exact Heap.get?_push_of_some _ (N' _ (.head _)).1); (case k9 => exact Nat.ne_of_gt lx); (case ka => exact Nat.zero_le _))
  intro h₃ ep' hs hx3
  have F3 := frS (F'.push { cls := .type "slice", data := .fields #[.none, .none, .none] }) hs hxN.2.1 hxN.2.2
  have keep := keepMo hg hmo (F'.push { cls := .type "slice", data := .fields #[.none, .none, .none] }) fun p' hp => Heap.get?_push_of_some _ (N' p' (.tail _ hp)).1
  have hd3 : h₃.get? d = some (szObj hh kt tz sz n) := (hs.2 d (Ne.symm hxd)).trans (Heap.get?_push_of_some _ hdN.1)
  clear F' I
  dsimp only
  walk
  have I := win_at hx3 hd3
  obtain ⟨cd, c1, c2, c3⟩ := cls100 w
  k_dflt (refine' win_setAttr (K := Mine.hd.heap_39 w.params) (X'.keeps F3.keep) I c1 c2 c3 ?k5 ?k6 ?k7 ?k8 ?k9 ?_; (case k5 => k_is); (case k6 => k_is); (case k7 => rw [get_sz]; rfl); (case k8 => exact put_sz); (case k9 => exact Nat.le_of_ble_eq_true rfl))
  intro h₄ hs4 hd4
  have F4 := frS F3 hs4 hdN.2.1 hdN.2.2
  have hx4 := (hs4.2 x hxd).trans hx3
  clear F3 N' I
  dsimp only
  walk
  exact hQ ep' _ n h₄ _ (fun b o hb hbd e => (hs4.2 b hbd).trans ((hs.2 b hb).trans (keep b o e))) hx4 hd4
end
noncomputable def IsSeq (h : Heap) (a : Addr) (items : Array Value) : Prop := ∃ o n, h.get? a = some o ∧ o.data = .seq items n
theorem IsSeq.at {h h' : Heap} {a : Addr} {items : Array Value} (x : IsSeq h a items) (k : ∀ o, h.get? a = some o → h'.get? a = some o) : IsSeq h' a items := let ⟨o, n, e, d⟩ := x; ⟨o, n, k o e, d⟩
section
variable {prog : Program} {w : World} {A : Around} {E : Value → Shared → Prop} {s : Shared}
theorem next_seq_item {it l : Addr} {i : Nat} {items : Array Value} {x : Value} {Q : Option Value → Shared → Prop} (hit : s.heap.IsListIter it l i) (hl : IsSeq s.heap l items) (hx : items[i]? = some x)
    (hQ : ∀ h', h'.IsListIter it l (i + 1) → Heap.SameBut it s.heap h' → Q (some x) { s with heap := h' }) : wpAny (model prog w) A (pyNext (.ref it)) Q E s := by
  obtain ⟨o, ho, hc, hd⟩ := id hit
  obtain ⟨ol, nl, hol, hdl⟩ := hl
  unfold pyNext
  refine wpAny_bind (wpAny_attempt (wpAny_callSpecial?_slot (name := Str.ofString "__next__") hit.typeIs slot_listiter_next
    (wpAny_call_entry slot_listiter_next hit.typeIs entry_listiter_next ?_ (args_listiter_next _))))
  show wpAny _ _ (field (.ref it) 0 >>= _) _ _ s
  refine wpAny_bind (wpAny_field ho hd (x := .ref l) rfl ?_)
  show wpAny _ _ (if (Value.ref l == Value.none) = true then _ else _) _ _ s
  rw [if_neg (show ¬ ((Value.ref l == Value.none) = true) from Bool.false_ne_true)]
  show wpAny _ _ (field (.ref it) 1 >>= _) _ _ s
  refine wpAny_bind (wpAny_field ho hd (x := .int i 0) rfl ?_)
  show wpAny _ _ (seqItems? (.ref l) >>= _) _ _ s
  refine wpAny_bind (wpAny_seqItems hol hdl ?_)
  simp only [Int.toNat_natCast, hx]
  refine wpAny_bind (wpAny_setField ho hd (by simp) (wpAny_pure ⟨x, rfl, wpAny_pure (hQ _ ?_ (Heap.SameBut.update ..))⟩))
  exact ⟨_, Heap.get?_update_self _ ho (Obj.isFreed_of_fields (Obj.data_mapFields hd _)), (Obj.cls_mapFields ..).trans hc, by
    rw [Obj.data_mapFields hd]; simp [rawInt]⟩
theorem next_seq_end {it l : Addr} {i : Nat} {items : Array Value} {Q : Option Value → Shared → Prop} (hh : A.handled = none) (hit : s.heap.IsListIter it l i) (hl : IsSeq s.heap l items) (hx : items[i]? = none)
    (hQ : ∀ h', Heap.ExtBut it s.heap h' → Q none { s with heap := h' }) : wpAny (model prog w) A (pyNext (.ref it)) Q E s := by
  obtain ⟨o, ho, hc, hd⟩ := id hit
  obtain ⟨ol, nl, hol, hdl⟩ := hl
  unfold pyNext
  refine wpAny_bind (wpAny_attempt (wpAny_callSpecial?_slot (name := Str.ofString "__next__") hit.typeIs slot_listiter_next
    (wpAny_call_entry slot_listiter_next hit.typeIs entry_listiter_next ?_ (args_listiter_next _))))
  show wpAny _ _ (field (.ref it) 0 >>= _) _ _ s
  refine wpAny_bind (wpAny_field ho hd (x := .ref l) rfl ?_)
  show wpAny _ _ (if (Value.ref l == Value.none) = true then _ else _) _ _ s
  rw [if_neg (show ¬ ((Value.ref l == Value.none) = true) from Bool.false_ne_true)]
  show wpAny _ _ (field (.ref it) 1 >>= _) _ _ s
  refine wpAny_bind (wpAny_field ho hd (x := .int i 0) rfl ?_)
  show wpAny _ _ (seqItems? (.ref l) >>= _) _ _ s
  refine wpAny_bind (wpAny_seqItems hol hdl ?_)
  simp only [Int.toNat_natCast, hx]
  refine wpAny_bind (wpAny_rule (wpAny_bind (wpAny_setField ho hd (by simp) ?_)))
  show wpAny _ _ (newExc (.type "StopIteration") [] >>= _) _ _ _
  refine wpAny_bind ?_
  simp only [newExc, newTuple]
  refine wpAny_bind (wpAny_newObj_type ?_ (by size_fits))
  refine wpAny_bind (m := firstArgMember _ _) (wpAny_of_eq (a := Value.none) (by first | rfl | (simp only [firstArgMember]; rfl)) ?_)
  refine wpAny_newObj_type ?_ (by size_fits)
  simp only [raiseNew]
  refine wpAny_bind (wpAny_handled ?_)
  rw [show A.in1.handled = none from hh]
  refine wpAny_bind (wpAny_pure (wpAny_throw ?_))
  refine wpAny_bind (wpAny_isInstance (T := "StopIteration") (b := true) ⟨_, Heap.get?_push_size _ rfl, rfl⟩ isSubtype_stop ?_)
  exact wpAny_pure (hQ _ (((Heap.SameBut.update ..).extBut.push _).push _))
end
theorem walksU_seq {prog : Program} {w : World} {A : Around} (hh : A.handled = none) (I ax : Addr) (hne : ax ≠ I) (items : Array Value) (Ts : Nat → Addr) (vals : Nat → Array Value)
    (hit : ∀ j, j < items.size → items[j]? = some (.ref (Ts j))) (hTI : ∀ j, j < items.size → Ts j ≠ I) :
    WalksU prog w A I (I :: ax :: (List.range items.size).map Ts) [I] items.size (fun j v => v = vals j)
      (fun j h => h.IsListIter I ax j ∧ IsSeq h ax items ∧ ∀ k, k < items.size → h.IsTuple (Ts k) (vals k))
      (fun j T h => (j < items.size ∧ T = Ts j) ∧ h.IsListIter I ax (j + 1) ∧ IsSeq h ax items ∧ ∀ k, k < items.size → h.IsTuple (Ts k) (vals k)) where
  sub := fun b hb => by simp at hb; simp [hb]
  frame := fun _ _ _ st hk => ⟨st.1.at fun o e => hk I (by simp) o e, st.2.1.at fun o e => hk ax (by simp) o e,
    fun k hk' => (st.2.2 k hk').at fun o e => hk (Ts k) (List.mem_cons_of_mem _ (List.mem_cons_of_mem _ (List.mem_map.mpr ⟨k, List.mem_range.mpr hk', rfl⟩))) o e⟩
  item := fun i s Q E hi st hQ => by
    refine next_seq_item st.1 st.2.1 (x := .ref (Ts i)) (hit i hi) fun h' hit' hs' => ?_
    have tup : ∀ k, k < items.size → h'.IsTuple (Ts k) (vals k) := fun k hk' => (st.2.2 k hk').extBut hs'.extBut (hTI k hk')
    exact hQ (Ts i) (vals i) h' s.toks rfl (tup i hi) ⟨⟨hi, rfl⟩, hit', st.2.1.at (fun o e => hs'.extBut ax o hne e), tup⟩ fun b o hb e => hs'.extBut b o (fun h => hb (by simp [h])) e
  go := fun _ _ _ _ _ s Q _ hm hQ => wpAny_letOwnedTupleGo_listiter hm.2.1 (hQ s.heap hm.2 fun _ _ _ e => e)
  apart := fun j T _ hm hmem => by
    rcases List.mem_cons.mp hmem with e | e
    · exact hTI j hm.1.1 (hm.1.2 ▸ e)
    · cases e
  done := fun s Q E st hQ => next_seq_end hh st.1 st.2.1 (by simp) fun h' he' => hQ h' s.toks fun b o hb e => he' b o (fun h => hb (by simp [h])) e
  self := fun _ _ _ _ st hQ => wpAny_pyIter_listiter st.1 hQ
section
variable {prog : Program} {w : World} {A : Around} {E : Value → Shared → Prop} {s : Shared} {K : Frag} {x d : Addr} {od : Option Obj} {its : List Value} {ep : Nat}
theorem iter_win {Q : Value → Shared → Prop} (X : K.In s.heap) (I : InstAt s.heap x (winObj d its ep) 100 od) (hs : findIn K (.ref 100) "__iter__" = some (some (.builtin "list.__iter__"))) (hm : mroIn K 100 (.type "list") = some true)
    (hQ : Q (.ref s.heap.objs.size) { s with heap := s.heap.push { cls := .type "list_iterator", data := .fields #[.ref x, .int 0 0] } }) :
    wpAny (model prog w) A (pyIter (.ref x)) Q E s := by
  have L := (looks_findIn (M := model prog w) X hs)
  unfold pyIter specialOf
  refine wpAny_bind (wpAny_bind (I.type.here (L.here ?_)))
  dsimp only
  have fin : wpAny (model prog w) A (call (.builtin "list.__iter__") [.ref x]) (fun it s' => ∃ T' r, s'.TypeIs it T' ∧ typeLookup (.type T') "__next__" = pure (some r) ∧ Q it s') E s := by
    refine call_sub (owner := "list") (n := "__iter__") (by decide +kernel) (by decide +kernel) slot_list_iter.plain entry_list_iter (win_inst X I hm) (args_list_iter _) ?_
    show wpAny _ _ (do ret (← newFields "list_iterator" [.ref x, rawInt 0])) _ _ s
    exact wpAny_bind (wpAny_newObj_type (wpAny_pure ⟨_, rfl, "list_iterator", _, ⟨_, Heap.get?_push_size _ rfl, rfl⟩, slot_listiter_next.lookup, hQ⟩))
  have tail : wpAny (model prog w) A (call (.builtin "list.__iter__") [.ref x] >>= fun v => pure (some v)) (fun a s' => wpAny (model prog w) A
      (match a with
      | some it => (typeOf it >>= fun t => typeLookup t "__next__") >>= fun r => match r with
          | none => (do rule "iter.non-iterator"; raiseError "TypeError" s!"iter() returned non-iterator of type '{← typeNameOf it}'" : Sem Value)
          | some _ => pure it
      | none => bindSpecialIfBound? (.ref x) "__getitem__" >>= fun r => match r with
          | none => (do rule "iter.not-iterable"; raiseError "TypeError" s!"'{← typeNameOf (.ref x)}' object is not iterable" : Sem Value)
          | some _ => (do rule "iter.getitem-fallback"; newFields "iterator" [.ref x, ← mkInt 0] : Sem Value)) Q E s') E s := by
    refine wpAny_bind (wpAny_mono fin (fun it s' h' => ?_) fun _ _ e => e)
    obtain ⟨T', r, hT', hl, hQ⟩ := h'
    exact wpAny_pure (wpAny_bind (wpAny_bind (wpAny_typeOf hT' (wpAny_of_eq hl (wpAny_pure hQ)))))
  refine wpAny_bind (m := callSpecialIfBoundUnlessNone? _ _ _) ?_
  unfold callSpecialIfBoundUnlessNone? bindSpecialIfBound? specialOf
  refine wpAny_holding (wpAny_bind (wpAny_bind (wpAny_bind (I.type.here (L.here ?_)))))
  refine wpAny_bind (wpAny_askSetting (wpAny_ite ?_))
  rw [slot_list_iter.bind]
  split
  · exact wpAny_bind (wpAny_pure (wpAny_pure tail))
  · exact wpAny_tryCatch (wpAny_bind (wpAny_pure (wpAny_pure tail)))
end
section
variable {prog : Program} {w : World} {A : Around} {E : Value → Shared → Prop} {s : Shared} {K : Frag} {x d : Addr} {o : Obj} {its : List Value} {ep : Nat} {name : Str} {expr : Bool}
theorem win_getAttr {v : Value} {Q : Value → Shared → Prop} (X : K.In s.heap) (I : InstAt s.heap x (winObj d its ep) 100 (some o)) (hga : findIn K (.ref 100) "__getattribute__" = some (some (.builtin "list.__getattribute__"))) (hk : findIn K (.ref 100) "__getattr__" = some none) (hm : mroIn K 100 (.type "list") = some true)
    (hf : findObj K 100 (some o) name = some (.value v)) (hh : handedIn v = true) (h : Q v { s with toks := s.toks + 1 }) : wpAny (model prog w) A (getAttr (.ref x) name expr) Q E s := by
  obtain ⟨hp, gg, dr, tt, os⟩ := s
  have L0 := I.type (M := model prog w)
  have L1 := looks_findIn (M := model prog w) X hga
  have L2 := looks_findIn (M := model prog w) X hk
  have L3 := looks_find (M := model prog w) X I hf
  unfold getAttr getAttrBy
  refine wpAny_bind (wpAny_mkText (wpAny_holding (wpAny_bind (L0.at (wpAny_bind (L1.at ?_))))))
  show wpAny _ _ (getAttrByItsOwn (.ref x) (.str name tt) (.ref 100) (.builtin "list.__getattribute__") true expr) _ _ _
  unfold getAttrByItsOwn
  refine wpAny_bind (m := hookBefore (.ref 100)) ?_
  show wpAny _ _ (typeLookup (.ref 100) "__getattr__") _ _ _
  refine L2.at ?_
  refine wpAny_bind (wpAny_attempt (wpAny_holding ?_))
  show wpAny _ _ (callGetattribute (.ref x) (.str name tt) (.builtin "list.__getattribute__") expr) _ _ _
  have e : callGetattribute (.ref x) (.str name tt) (.builtin "list.__getattribute__") expr = boundAndCalled (.builtin "list.__getattribute__") (.ref x) (.str name tt) := by
    unfold callGetattribute
    rw [if_neg (by cases expr <;> decide)]
  rw [e]
  unfold boundAndCalled
  rw [F.slot_list_getattribute.bind]
  refine wpAny_bind (wpAny_pure ?_)
  refine call_sub (owner := "list") (n := "__getattribute__") (by decide +kernel) (by decide +kernel) F.slot_list_getattribute.plain F.entry_list_ga (win_inst X I hm) (by unfold argsOk; kernel_rfl) ?_
  show wpAny _ _ (typeOf (.ref x) >>= _) _ _ _
  refine wpAny_bind (L0.at ?_)
  refine wpAny_bind (L3.at ?_)
  refine wpAny_pure ⟨v, rfl, ?_⟩
  show wpAny _ _ (handedOut v) _ _ _
  rw [handedOut_of hh]
  exact wpAny_pure h
end
theorem walksS_shift {prog : Program} {w : World} {A : Around} {I : Addr} {fp wr : List Addr} {G : Array GenState → Array GenState → Prop} {n : Nat} {P : Nat → Value → Prop} {St : Nat → Shared → Prop} (W : WalksS prog w A I fp wr G n P St) :
    WalksS prog w A I fp wr G (n + 1) (fun i v => ∃ j, i = j + 1 ∧ P j v) (fun i s => ∃ j, i = j + 1 ∧ St j s) where
  sub := W.sub
  grefl := W.grefl
  gtrans := W.gtrans
  frame := fun i s h' tk ⟨j, e, st⟩ ht hk => ⟨j, e, W.frame j s h' tk st ht hk⟩
  item := fun i s Q E hi ⟨j, e, st⟩ hQ => W.item j s Q E (by lia) st fun v s' hP hst hm => hQ v s' ⟨j, e, hP⟩ ⟨j + 1, by lia, hst⟩ hm
  done := fun s Q E ⟨j, e, st⟩ hQ => W.done s Q E (Nat.succ.inj e ▸ st) hQ
  self := fun i s Q E ⟨j, e, st⟩ hQ => W.self j s Q E st hQ
theorem preSum_shift (f : Nat → Int) : ∀ n, preSum f (n + 1) = f 0 + preSum (fun j => f (j + 1)) n
  | 0 => by simp [preSum]
  | n + 1 => by
    rw [show preSum f (n + 1 + 1) = preSum f (n + 1) + f (n + 1) from rfl, preSum_shift f n, show preSum (fun j => f (j + 1)) (n + 1) = preSum (fun j => f (j + 1)) n + f (n + 1) from rfl]
    lia
theorem args_sum2 (a b : Value) : argsOk "sum" ⟨[a, b], []⟩ := by unfold argsOk; kernel_rfl
section
variable {prog : Program} {w : World} {A : Around} {E : Value → Shared → Prop} {s : Shared}
theorem call_sum_start {x : Value} {a : Int} {t : Tok} {Q : Value → Shared → Prop}
    (h : wpAny (model prog w) A.in1 (pyIter x) (fun it s₂ => ∃ I fp wr G n P St val, it = .ref I ∧ WalksS prog w A.in1 I fp wr G n P St ∧ St 0 s₂ ∧ (∀ b ∈ fp, b < s₂.heap.objs.size) ∧
      (∀ i v, P i v → ∃ t, v = .int (val i) t) ∧
      ∀ s' t', Moved wr G s₂ s' → Q (.int (a + preSum val n) t') s') E s) :
    wpAny (model prog w) A (call (.builtin "sum") [x, .int a t]) Q E s := by
  refine call_function_tree F.kind_sum F.plain_sum F.entry_sum (args_sum2 _ _) ?_
  unfold Builtin.«sum»
  simp only [List.length_cons, List.length_nil]
  rw [if_neg (by decide)]
  refine wpAny_bind (wpAny_of_eq (show Builtin.Builtins.bindParams "sum" ["start"] 0 ⟨[.int a t], []⟩ = pure [some (.int a t)] from rfl) ?_)
  refine wpAny_bind (wpAny_mono h (fun it s₂ h₂ => ?_) fun _ _ e => e)
  obtain ⟨I, fp, wr, G, n, P, St, val, rfl, W, hst, hfp, hval, hQ⟩ := h₂
  have main : ∀ (s₃ : Shared) (t' : Tok) (st : Int), (st = 0 ∨ st = 2) → s₃.heap = s₂.heap → s₃.gens = s₂.gens → s₃.drawn = s₂.drawn → s₃.os = s₂.os → s₂.toks ≤ s₃.toks →
      wpAny (model prog w) A.in1 (newList [.int a t'] >>= fun l => (again (.builtin "sum.loop" ⟨[.ref I, l, rawInt st, rawInt 0], []⟩) : Sem Fin)) (fun fin s' => match fin with | .done f => (match (Except.ok f : Result) with | .ok (.ret v) => Q v s' | .ok _ => False | .error e => E e s') | .again c' => c'.quiet = true ∧ codeAny (model prog w) A c' (fun r s' => match r with | .ok (.ret v) => Q v s' | .ok _ => False | .error e => E e s') s') (fun e s' => E e s') s₃ := by
    intro s₃ t' st hst2 e1 e2 e3 e4 e5
    obtain ⟨hp, gg, dr, tt, os⟩ := s₃
    dsimp only at e1 e2 e3 e4 e5
    subst e1 e2 e3 e4
    refine wpAny_bind (wpAny_newObj_type ?_)
    have hSf : s₂.heap.objs.size ∉ fp := fun hm => Nat.lt_irrefl _ (hfp _ hm)
    refine wpAny_pure ⟨plainId_quiet F.plain_sum_loop _, codeAny_sum_loopAnyS (walksS_shift W) (fun i => match i with | 0 => a | i + 1 => val i) (fun i v hP => by obtain ⟨j, rfl, hP⟩ := hP; exact hval j v hP) s₂.heap.objs.size hSf n 1 _ t' 0 st hst2 (by lia) (by lia)
      ⟨0, rfl, W.frame 0 s₂ _ _ hst e5 fun b _ o e => Heap.get?_push_of_some _ e⟩ ((Heap.get?_push_size _ rfl).trans (by simp [preSum])) fun s' t'' hm => ?_⟩
    rw [preSum_shift]
    exact hQ s' t'' (hm.drop_new e5)
  dsimp only
  split
  · refine wpAny_bind (wpAny_rule (wpAny_bind (wpAny_mkInt (wpAny_bind (wpAny_pure ?_)))))
    simp only [List.forIn_cons, List.forIn_nil]
    refine wpAny_bind (wpAny_bind (wpAny_bind (wpAny_isInstance (T := "int") (b := false) (typeIs_int _ _ _) PySem.sub_int_str ?_)))
    simp only [Bool.false_eq_true, if_false]
    refine wpAny_pure (wpAny_bind (wpAny_bind (wpAny_isInstance (T := "int") (b := false) (typeIs_int _ _ _) PySem.sub_int_bytes ?_)))
    simp only [Bool.false_eq_true, if_false]
    refine wpAny_pure (wpAny_bind (wpAny_bind (wpAny_isInstance (T := "int") (b := false) (typeIs_int _ _ _) PySem.sub_int_bytearray ?_)))
    simp only [Bool.false_eq_true, if_false]
    refine wpAny_pure (wpAny_pure ?_)
    exact main _ s₂.toks 0 (.inl rfl) rfl rfl rfl rfl (Nat.le_succ _)
  · refine wpAny_bind (wpAny_pure ?_)
    simp only [List.forIn_cons, List.forIn_nil]
    refine wpAny_bind (wpAny_bind (wpAny_bind (wpAny_isInstance (T := "int") (b := false) (typeIs_int _ _ _) PySem.sub_int_str ?_)))
    simp only [Bool.false_eq_true, if_false]
    refine wpAny_pure (wpAny_bind (wpAny_bind (wpAny_isInstance (T := "int") (b := false) (typeIs_int _ _ _) PySem.sub_int_bytes ?_)))
    simp only [Bool.false_eq_true, if_false]
    refine wpAny_pure (wpAny_bind (wpAny_bind (wpAny_isInstance (T := "int") (b := false) (typeIs_int _ _ _) PySem.sub_int_bytearray ?_)))
    simp only [Bool.false_eq_true, if_false]
    refine wpAny_pure (wpAny_pure ?_)
    exact main _ t 2 (.inr rfl) rfl rfl rfl rfl (Nat.le_refl _)
end
abbrev Piece := Addr × (Str × Tok) × (Str × Tok)
abbrev pieceObj (p : Piece) : Obj := { cls := .type "tuple", data := .seq #[.str p.2.1.1 p.2.1.2, .str p.2.2.1 p.2.2.2] }
noncomputable def pieceLen (p : Piece) : Int := (p.2.1.1.length : Int) + p.2.2.1.length
abbrev piecesIts (ps : List Piece) : List Value := ps.map fun p => .ref p.1
abbrev tabObj (ps : Array Value) : Obj := { cls := .none, data := .fields ps }
noncomputable def Tab (h : Heap) : Prop := ∃ ps, h.IsCode 66 62 ps ∧ h.TableAt 66 62 ps
theorem Tab.keeps {h h' : Heap} (x : Tab h) (k : ∀ b o, h.get? b = some o → h'.get? b = some o) : Tab h' := let ⟨ps, a, b⟩ := x; ⟨ps, a.keeps k, b.keeps k⟩
section
variable {prog : Program} {w : World} {A : Around} {E : Value → Shared → Prop} {s : Shared}
theorem gen_code {env : Env} {pos : Pos} {qn : Str} {scope : Scope} {Q : Value → Shared → Prop} (hc : env.code = .ref 66) (hT : Tab s.heap)
    (hQ : ∀ code h' tk, (∀ b o, b ≠ 62 → s.heap.get? b = some o → h'.get? b = some o) → s.heap.objs.size ≤ h'.objs.size → Tab h' → Q code { s with heap := h', toks := tk }) : wpAny (model prog w) A (genexprCode env pos qn scope) Q E s := by
  obtain ⟨ps, h1, h2⟩ := hT
  cases hf : codeAmong pos ps.toList with
  | some c' => exact wpAny_genexprCode_hit hc h1 hf (hQ c' s.heap s.toks (fun _ _ _ e => e) (Nat.le_refl _) ⟨ps, h1, h2⟩)
  | none => exact wpAny_genexprCodeX hc h1 h2 hf fun c' h' tk hx a b h1' _ h2' _ => hQ _ h' tk (fun b o n e => hx b o n e) (by omega) ⟨_, h1', h2'⟩
end
theorem find_sz (w : World) {hh : Int} {kt : Tok} {v : Value} {n : Nat} : findObj (Mine.hd.heap_39 w.params) 100 (some ({ cls := .type "dict", data := .dict #[⟨hh, .str "_initial_size" kt, v⟩] n } : Obj)) "_initial_size" = some (.value v) := by
  obtain ⟨cd, c1, c2, c3⟩ := cls100 w
  have c4 : findIn (Mine.hd.heap_39 w.params) (.ref 100) "_initial_size" = some none := by kernel_rfl
  unfold findObj
  rw [c1, c4]
  simp only [Option.bind_some]
  unfold W.ownOf
  rw [c3]
  simp only [if_true]
  show (Option.bind (getL (Str.ofString "_initial_size") [⟨hh, .str (Str.ofString "_initial_size") kt, v⟩]) _) = _
  rw [get_sz]; rfl
theorem Tab.at {h h' : Heap} (x : Tab h) (k : ∀ b o, b = 66 ∨ b = 62 → h.get? b = some o → h'.get? b = some o) : Tab h' := by
  obtain ⟨ps, ⟨o, vs, file, tf, flags, tg, inF, text, tt, op, ho, hd, h11, h2, h7, h9, h10, hop, hpd, htr, hne⟩, ⟨oc, vc, hoc, hcc, hdc, h11c⟩, htP⟩ := x
  exact ⟨ps, ⟨o, vs, file, tf, flags, tg, inF, text, tt, op, k _ _ (.inl rfl) ho, hd, h11, h2, h7, h9, h10, k _ _ (.inr rfl) hop, hpd, htr, hne⟩, ⟨oc, vc, k _ _ (.inl rfl) hoc, hcc, hdc, h11c⟩, k _ _ (.inr rfl) htP⟩
theorem passing_all (n : Nat) : passing (fun _ => true) n 0 = List.range n := by simp [passing]
theorem preSum_pieces : ∀ ps : List Piece, preSum (fun j => pieceLen (ps.getD j default)) ps.length = (ps.map pieceLen).sum
  | [] => rfl
  | p :: ps => by rw [List.length_cons, preSum_shift, List.map_cons, List.sum_cons, ← preSum_pieces ps]; rfl
section
variable {prog : Program} {w : World} {A : Around} {E : Value → Shared → Prop} {s : Shared}
theorem len_name {env : Env} {x : Str} {p1 p2 p3 : Pos} {sx : Str} {t : Tok} {m mg mb : Str → Option Value} {Q : Value → Shared → Prop} (hk : env.scope.kind = .function) (hl : env.kindOf "len" = some .globalImplicit) (hx : env.kindOf x = some .local)
    (hg : s.heap.Ns env.globals mg) (hb : s.heap.Ns env.builtins mb) (h1 : mg "len" = none) (h2 : mb "len" = some (.builtin "len")) (hn : s.heap.Ns env.locals m) (hv : m x = some (.str sx t)) (hlen : sx.length < 1000)
    (hd : (x == ("__debug__" : Str)) = false) (hbt : backTo p3 (starEach [.Name x p2] env) = [(false, eval (.Name x p2) env)])
    (h : Q (.int sx.length (s.toks + 1)) { s with toks := s.toks + 1 + 1 }) : wpAny (model prog w) A (eval (.Call (.Name "len" p1) [.Name x p2] [] p3) env) Q E s := by
  refine wpAny_Call_NameR (Calls.Name_function_global hk hl (Calls.loadGlobal_builtin hg h1 hb h2 ?_))
  rw [hbt]
  refine Calls.callWith_builtin rfl (Calls.evalArgs_plain (Calls.spliced_cons (wpAny_Name (wpAny_loadName_local hk hx hn hv ?_) hd)))
  refine Calls.spliced_nil ?_
  exact len_str (by omega) h
end
theorem len_free {mg mb : Str → Option Value} {h : Heap} (T : Tp mg mb h) : mg "len" = none := T.free "len" (by decide +kernel) (by decide +kernel) (by decide +kernel) (by decide +kernel) (by decide +kernel)
theorem len_boot {mg mb : Str → Option Value} {h : Heap} (T : Tp mg mb h) : mb "len" = some (.builtin "len") := (T.builtins "len" (by decide)).trans rfl
section
variable {w : World} {mg mb : Str → Option Value} {dp un : Nat} {fr : Option (List Env)} {gd : Option (List Code)} {s : Shared} {Q E : Value → Shared → Prop} {h₀ : Heap}
theorem lenBody_ok {bm : Addr} {ob : Obj} {mg₁ : Str → Option Value} {x d : Addr} {ps : List Piece} {ep n : Nat} {hh sz : Int} {kt tz : Tok} (G : Ok w mg mb h₀) (hk : ∀ b o, h₀.get? b = some o → s.heap.get? b = some o)
    (hx : s.heap.get? x = some (winObj d (piecesIts ps) ep)) (hx0 : h₀.get? x = none) (hd : s.heap.get? d = some (szObj hh kt tz sz n)) (hd0 : h₀.get? d = none) (M : BMod h₀ mainGlobals mg₁ bm ob) (hT : Tab s.heap) (hT0 : h₀.get? 62 = none) (hxd : x ≠ d) (hx62 : x ≠ 62) (hd62 : d ≠ 62)
    (hps : ∀ p ∈ ps, s.heap.get? p.1 = some (pieceObj p)) (hg : AllBare s.gens) (hln : ∀ i, (ps.getD i default).2.1.1.length < 1000 ∧ (ps.getD i default).2.2.1.length < 1000)
    (hdp : dp + 20 < recursionLimit)
    (hQ : ∀ s' t, (∀ b o, b ≠ 62 → s.heap.get? b = some o → s'.heap.get? b = some o) → Tab s'.heap → AllBare s'.gens → s'.os = s.os → Q (.int (sz + (ps.map pieceLen).sum) t) s') :
    wpAny (model Pg w) (Ar dp fr gd un) (call (.ref 67) [.ref x]) Q E s := by
  w_top on
  obtain ⟨tp, hT1, hT2⟩ := hT
  obtain ⟨X, T⟩ := Ok.hide G hk (as := [x, d, 62]) (by simp [hx0, hd0, hT0])
  have hmo : ∀ p' ∈ [(x, winObj d (piecesIts ps) ep), (d, szObj hh kt tz sz n), (62, tabObj tp)], s.heap.get? p'.1 = some p'.2 := fun p' hp => by
    rcases List.mem_cons.mp hp with rfl | hp
    · exact hx
    rcases List.mem_cons.mp hp with rfl | hp
    · exact hd
    · rw [List.mem_singleton.mp hp]; exact hT2.2
  have XS := X.keeps (fun _ _ e => of_hideAll _ e)
  refine wpAny_call ?_
  k_dflt (refine' enter_ (mo := [(x, winObj d (piecesIts ps) ep), (d, szObj hh kt tz sz n), (62, tabObj tp)]) (binds := [("self", .ref x)]) (K := Mine.hd.heap_39 w.params) ?k1 ?k2 ?k3 ?k4 ?k5 ?k6 ?k7 ?k8 ?_ ?c1 ?c2 ?c3 ?c4; (case k3 => exact hmo); walk_at "mine enter2")
  intro g h₁ hg' X' hge F N
  have T' : Tp mg mb g := by rw [hge]; exact T
  clear X T hd0 hx0
  (try dsimp only)
  walk
  rename Fr _ _ _ _ => F'
  rename News _ _ _ _ => N'
  have lx := N' _ (.head _)
  have ld := N' _ (.tail _ (.head _))
  have lt := N' _ (.tail _ (.tail _ (.head _)))
  have szle : s.heap.objs.size < h₁.objs.size := F'.ns.lt
  have keep := keepMo hg' hmo F' fun p' hp => (N' p' hp).1
  refine wpAny_GeneratorExp_walksQTD rfl rfl (cl := []) rfl (by decide) rfl rfl rfl (by decide) rfl ?_ ?_ (fun _ => rfl)
  · (try dsimp only); simp only [depth_deeper]; omega
  refine wpAny_Name (wpAny_loadName_local rfl rfl F'.ns rfl ?_)
  have I := win_at lx.1 ld.1
  refine iter_win (K := Mine.hd.heap_39 w.params) (X'.keeps F'.keep) I (by k_is) (by k_is) ?_
  have nl : h₁.NoLimit := (T'.keeps F'.keep).nolimit
  refine ⟨nl.push _, ?_⟩
  have hT' : Tab h₁ := Tab.keeps ⟨tp, hT1, hT2⟩ keep
  refine gen_code rfl (hT'.keeps fun _ _ e => Heap.get?_push_of_some _ e) fun code h₃ tk₃ k3 sz3 T3 => ?_
  have keep3 : ∀ b o, b ≠ 62 → s.heap.get? b = some o → h₃.get? b = some o := fun b o n e => k3 b o n (Heap.get?_push_of_some _ (keep b o e))
  have keep03 : ∀ b o, h₀.get? b = some o → h₃.get? b = some o := fun b o e => keep3 b o (fun q => by rw [q, hT0] at e; cases e) (hk b o e)
  have nl3 : h₃.NoLimit := (G.t.keeps keep03).nolimit
  have M3 := M.keeps keep03
  have hI : h₁.objs.size < h₃.objs.size := by rw [Heap.size_push] at sz3; exact sz3
  have h62 : 62 < s.heap.objs.size := Heap.lt_size hT2.2
  refine wpAny_builtinsFor M3.ns M3.name M3.ne M3.obj M3.cls M3.dict M3.data ?_
  dsimp only
  have HW := fun (A' : Around) (hA : A'.handled = none) => walksU_seq (prog := Pg) (w := w) hA h₁.objs.size x (Nat.ne_of_lt (Heap.lt_size lx.1)) (piecesIts ps).toArray (fun j => (ps.getD j default).1) (fun j => #[.str (ps.getD j default).2.1.1 (ps.getD j default).2.1.2, .str (ps.getD j default).2.2.1 (ps.getD j default).2.2.2])
      (fun j hj => by simp at hj; simp [hj]) (fun j hj => by
        simp at hj
        have := hps (ps.getD j default) (by simp [hj])
        exact Nat.ne_of_lt (Nat.lt_trans (Heap.lt_size this) szle))
  refine ⟨_, _, _, _, _, _, _, fun _ => true, fun j v => ∃ t, v = .int (pieceLen (ps.getD j default)) t, rfl, HW, ?sz2, ?st, ?fp, nl3, ?cs, fun href hhref => ⟨fun A₂ E₂ i va vb s₂ m₂ hA₂ hd₂ hu₂ hP₂ hn₂ ha₂ hb₂ hk₂ => ?_, fun A₂ E₂ i va vb s₂ m₂ hA₂ hd₂ hu₂ hP₂ _ hn₂ ha₂ hb₂ hk₂ => ?_⟩, ?_⟩
  case sz2 => exact fun i vals e => ⟨_, _, e⟩
  case st => exact ⟨Heap.IsListIter.at ⟨_, Heap.get?_push_size _ rfl, rfl, rfl⟩ fun o e => k3 _ o (Nat.ne_of_gt (Nat.lt_trans h62 szle)) e, ⟨_, _, k3 _ _ hx62 (Heap.get?_push_of_some _ lx.1), rfl⟩, fun k hk' => by
      simp at hk'
      have hp := hps (ps.getD k default) (by simp [hk'])
      exact ⟨_, keep3 _ _ (fun q => by rw [q] at hp; rw [hT2.2] at hp; cases hp) hp, rfl, _, rfl⟩⟩
  case fp =>
    intro b hb
    rcases List.mem_cons.mp hb with rfl | hb
    · exact hI
    rcases List.mem_cons.mp hb with rfl | hb
    · exact Nat.lt_trans (Heap.lt_size lx.1) hI
    · obtain ⟨j, hj, rfl⟩ := List.mem_map.mp hb
      have hj : j < ps.length := by simpa using List.mem_range.mp hj
      exact Nat.lt_trans (Heap.lt_size (hps (ps.getD j default) (by simp [hj]))) (Nat.lt_trans szle hI)
  case cs =>
    intro hm
    have := List.mem_singleton.mp hm
    rw [← this] at szle
    exact absurd (Nat.lt_trans h62 szle) (by decide)
  · simp only [List.forIn_nil]
    exact wpAny_pure ⟨rfl, _, _, rfl, fun _ _ e => e⟩
  · have hgI : ∀ b o, g.get? b = some o → b < s.heap.objs.size := fun b o e => by
      have := Heap.lt_size e
      rw [hge, hideAll_size] at this; exact this
    have F2 : Fr g h₃.objs.size s₂.heap m₂ := ⟨hn₂, fun b o e => hk₂ b (List.mem_range.mpr (Nat.lt_trans (hgI b o e) (Nat.lt_trans szle hI))) (fun hm => by
      have := hgI b o e
      rw [List.mem_singleton.mp hm] at this; exact absurd (Nat.lt_trans this szle) (Nat.lt_irrefl _)) o (hhref b o (k3 b o (fun q => by rw [q] at e; rw [lt.2.2] at e; cases e) (Heap.get?_push_of_some _ (F'.keep b o e)))), by
        have := F'.above; omega⟩
    have N2 : News g h₃.objs.size s₂.heap [] := fun _ h => nomatch h
    have hla := hln i
    obtain ⟨hva, hvb⟩ : va = .str (ps.getD i default).2.1.1 (ps.getD i default).2.1.2 ∧ vb = .str (ps.getD i default).2.2.1 (ps.getD i default).2.2.2 := by simpa using hP₂
    subst hva hvb
    have T2 := T'.keeps F2.keep
    refine wpAny_BinOp (len_name rfl rfl rfl T2.g T2.b (len_free T2) (len_boot T2) hn₂ ha₂ hla.1 rfl rfl (len_name rfl rfl rfl T2.g T2.b (len_free T2) (len_boot T2) hn₂ hb₂ hla.2 rfl rfl (wpAny_add_int ?_)))
    exact ⟨⟨_, rfl⟩, _, _, rfl, fun _ _ e => e⟩
  intro a h₅ tk gs hgb hag hsz5 hk5 W hat
  have keep5 : ∀ b o, b ≠ 62 → s.heap.get? b = some o → h₅.get? b = some o := fun b o n e => hk5 b o (keep3 b o n e)
  have g5 : ∀ b o, g.get? b = some o → h₅.get? b = some o := fun b o e => hk5 _ _ (k3 b o (fun q => by rw [q] at e; rw [lt.2.2] at e; cases e) (Heap.get?_push_of_some _ (F'.keep b o e)))
  show wpAny _ _ (spliced [(false, eval (.Attribute (.Name "self" _) "_initial_size" _) _)]) _ _ _
  refine Calls.spliced_cons ?_
  refine Attribute_name (wpAny_Name (wpAny_loadName_local rfl rfl (F'.ns.at' fun o e => hk5 _ _ (k3 _ o (Nat.ne_of_gt h62) (Heap.get?_push_of_some _ e))) rfl ?_))
  have I5 := win_at (keep5 x _ hx62 hx) (keep5 d _ hd62 hd)
  refine win_getAttr (K := Mine.hd.heap_39 w.params) (X'.keeps g5) I5 (v := .int sz tz) (by k_is) (by k_is) (by k_is) (find_sz w) rfl ?_
  refine Calls.spliced_nil ?_
  have W1 := W.in4_1
  refine call_sum_start (W1.self 0 _ _ _ (W1.frame 0 _ h₅ (tk + 1) hat (Nat.le_succ _) fun _ _ _ e => e) ⟨a, _, _, _, _, _, _, fun j => pieceLen (ps.getD j default), rfl, W1, W1.frame 0 _ h₅ (tk + 1) hat (Nat.le_succ _) fun _ _ _ e => e, ?_, ?_, fun s' t' hm => ?_⟩)
  · intro b hb
    show b < h₅.objs.size
    rw [hsz5]
    rcases List.mem_cons.mp hb with rfl | hb
    · exact Nat.lt_succ_self _
    rcases List.mem_cons.mp hb with rfl | hb
    · exact Nat.lt_succ_of_lt hag
    · exact Nat.lt_succ_of_lt (Nat.lt_trans (List.mem_range.mp hb) hag)
  · rintro j v ⟨i, hi, hv⟩
    rw [passing_all] at hi
    have : j = i := by
      rw [List.getElem?_range] at hi
      · exact Option.some.inj hi
      · rcases Nat.lt_or_ge j (piecesIts ps).toArray.size with h | h
        · exact h
        · rw [List.getElem?_eq_none (by simpa using h)] at hi; cases hi
    subst this
    exact hv
  · have nw : ∀ b, b < s.heap.objs.size → b ∉ [h₃.objs.size, h₁.objs.size] := fun b hb hm => by
      rcases List.mem_cons.mp hm with e | hm
      · omega
      · have e := List.mem_singleton.mp hm; omega
    have e : preSum (fun j => pieceLen (ps.getD j default)) (passing (fun _ => true) (piecesIts ps).toArray.size 0).length = (ps.map pieceLen).sum := by
      rw [passing_all, List.length_range, show (piecesIts ps).toArray.size = ps.length by simp, preSum_pieces]
    rw [e]
    refine hQ s' t' (fun b o n e => hm.heap b o (nw b (Heap.lt_size e)) (keep5 b o n e)) ?_ ((hg.push hgb).movedS hm) hm.os
    refine (T3.keeps hk5).at fun b o hb e => hm.heap b o ?_ e
    rcases hb with rfl | rfl
    · exact nw _ (hT1.lt.1)
    · exact nw _ h62
end
section
variable {w : World} {mg mb : Str → Option Value} {dp un : Nat} {fr : Option (List Env)} {gd : Option (List Code)} {s : Shared} {Q E : Value → Shared → Prop} {h₀ : Heap}
theorem len_ok {L : Addr} {m : Str → Option Value} {bm : Addr} {ob : Obj} {mg₁ : Str → Option Value} {x d : Addr} {ps : List Piece} {ep n : Nat} {hh sz : Int} {kt tz : Tok} (F : Fr h₀ L s.heap m) (G : Ok w mg mb h₀)
    (hx : s.heap.get? x = some (winObj d (piecesIts ps) ep)) (hx0 : h₀.get? x = none) (hd : s.heap.get? d = some (szObj hh kt tz sz n)) (hd0 : h₀.get? d = none) (M : BMod h₀ mainGlobals mg₁ bm ob) (hT : Tab s.heap) (hT0 : h₀.get? 62 = none) (hxd : x ≠ d) (hx62 : x ≠ 62) (hd62 : d ≠ 62)
    (hps : ∀ p ∈ ps, s.heap.get? p.1 = some (pieceObj p)) (hg : AllBare s.gens) (hln : ∀ i, (ps.getD i default).2.1.1.length < 1000 ∧ (ps.getD i default).2.2.1.length < 1000)
    (hdp : dp + 20 < recursionLimit) (h0 : 0 ≤ sz + (ps.map pieceLen).sum) (h1 : sz + (ps.map pieceLen).sum < 2 ^ 63)
    (hQ : ∀ s' t, (∀ b o, b ≠ 62 → s.heap.get? b = some o → s'.heap.get? b = some o) → Tab s'.heap → AllBare s'.gens → s'.os = s.os → Q (.int (sz + (ps.map pieceLen).sum) t) s') :
    wpAny (model Pg w) (Ar dp fr gd un) (call (.builtin "len") [.ref x]) Q E s := by
  refine len_K F G.x (win_at hx hd) (f := 67) (by k_is) (by k_is) ?_
  show wpAny _ (Ar dp fr gd (un + 1)) _ _ _ _
  refine lenBody_ok G F.keep hx hx0 hd hd0 M hT hT0 hxd hx62 hd62 hps hg hln hdp fun s' t a b c e => ?_
  exact ⟨⟨h0, h1⟩, hQ { s' with toks := s'.toks + 1 } s'.toks a b c e⟩
end
theorem wd_get : Slot "wrapper_descriptor" "__get__" "wrapper_descriptor.__get__" := .of (owner := "wrapper_descriptor") (n := "__get__") (by rw [typeLookup_type, builtinLookup_eq_fast]; kernel_rfl) (by decide +kernel) (by decide +kernel) (by decide +kernel)
  (by first | exact .inl (by decide +kernel) | exact .inr (by decide +kernel)) (by rw [isSubtype_type]; kernel_rfl)
theorem wd_entry : entryFor table "wrapper_descriptor.__get__" = some Builtin.«wrapper_descriptor.__get__» := entryFor_of_tree (by kernel_rfl)
theorem wd_args (a b c : Value) : argsOk "wrapper_descriptor.__get__" ⟨[a, b, c], []⟩ := by unfold argsOk; kernel_rfl
theorem ty_list_len : typeOf (.builtin "list.__len__") = pure (.type "wrapper_descriptor") := by kernel_rfl
theorem ty_list_init : typeOf (.builtin "list.__init__") = pure (.type "wrapper_descriptor") := by kernel_rfl
section
variable {prog : Program} {w : World} {A : Around} {E : Value → Shared → Prop} {K : Frag} {x d so : Addr} {od : Option Obj} {its : List Value} {ep : Nat} {h : Heap} {g : Array GenState} {dr : Drawn} {t : Nat} {os : OsState}
abbrev mwObj (id : String) (x : Addr) : Obj := { cls := .type "method-wrapper", data := .fields #[.builtin id, .ref x] }
theorem super_ga_bi {id : String} {name : Str} {tk : Tok} {l₀ l : List Value} {Q : Fin → Shared → Prop} {ox : Obj}
    (hso : h.get? so = some { cls := .type "super", dict := none, data := .fields #[.ref 100, .ref x, .ref 100], slots := #[] }) (hno : Looks (model prog w) h (opaqueClassAbove (.ref 100)) none)
    (hC : Looks (model prog w) h (mroOf (.ref 100)) l₀) (hl : (l₀.dropWhile (· != .ref 100)).drop 1 = l) (X : K.In h)
    (hf : alongIn K name l = some (some (.builtin id))) (hty : typeOf (.builtin id) = pure (.type "wrapper_descriptor")) (hxC : x ≠ 100) (hn : (name == ("__class__" : Str)) = false)
    (hx : h.get? x = some ox) (hxc : ox.cls = .ref 100) (hsub : Looks (model prog w) h (isSubtype (.ref 100) (.type "list")) true) (how : ".".intercalate (id.cutAt '.').dropLast = "list")
    (hq : Q (.done (.ret (.ref h.objs.size))) ⟨h.push (mwObj id x), g, dr, t, os⟩) :
    wpAny (model prog w) A (Builtin.«super.__getattribute__» ⟨[.ref so, .str name tk], []⟩) Q E ⟨h, g, dr, t, os⟩ := by
  have hlk := wd_get.lookup
  have hne : (Value.ref x == Value.ref 100) = false := by simp [hxC]
  have hTf : (⟨h, g, dr, t, os⟩ : Shared).TypeIs (.builtin id) "wrapper_descriptor" := hty
  have hdt : ({ cls := .type "super", dict := none, data := .fields #[.ref 100, .ref x, .ref 100], slots := #[] } : Obj).data = .fields #[.ref 100, .ref x, .ref 100] := rfl
  have f0 : (#[.ref 100, .ref x, .ref 100] : Array Value)[0]? = some (.ref 100) := rfl
  have f1 : (#[.ref 100, .ref x, .ref 100] : Array Value)[1]? = some (.ref x) := rfl
  have f2 : (#[.ref 100, .ref x, .ref 100] : Array Value)[2]? = some (.ref 100) := rfl
  unfold Builtin.«super.__getattribute__»
  repeat (first
    | (with_reducible refine wpAny_field hso hdt f0 ?_) | (with_reducible refine wpAny_field hso hdt f1 ?_) | (with_reducible refine wpAny_field hso hdt f2 ?_)
    | (with_reducible refine ks_wpAny_notOpaque hno ?_)
    | (with_reducible refine Looks.at hC ?_; rw [hl])
    | (refine ks_forIn_along X (fun _ _ => rfl) rfl ?_ hf)
    | (with_reducible refine wpAny_typeOf hTf ?_)
    | (with_reducible refine wpAny_call_entry wd_get hTf wd_entry ?_ (wd_args _ _ _))
    | (with_reducible refine ⟨_, rfl, ?_⟩)
    | (with_reducible refine wpAny_loadPart_at hx ?_)
    | (simp only [how, hxc]; with_reducible refine Looks.at hsub ?_)
    | (with_reducible refine wpAny_newObj_type ?_ (by size_fits))
    | (simp only [hn, hne, Bool.or_false, Bool.false_eq_true, if_false])
    | wp_step
    | dsimp only)
  all_goals exact hq
end
section
variable {prog : Program} {w : World} {A : Around} {E : Value → Shared → Prop} {K : Frag} {x d so : Addr} {od : Option Obj} {its : List Value} {ep : Nat} {s : Shared}
theorem super_method_bi {id : String} {name : Str} {pl : Sem Bool} {Q : Value × List Value → Shared → Prop} {ox : Obj} {l₀ l : List Value}
    (hso : s.heap.get? so = some { cls := .type "super", dict := none, data := .fields #[.ref 100, .ref x, .ref 100], slots := #[] }) (hno : Looks (model prog w) s.heap (opaqueClassAbove (.ref 100)) none)
    (hC : Looks (model prog w) s.heap (mroOf (.ref 100)) l₀) (hl : (l₀.dropWhile (· != .ref 100)).drop 1 = l) (X : K.In s.heap)
    (hf : alongIn K name l = some (some (.builtin id))) (hty : typeOf (.builtin id) = pure (.type "wrapper_descriptor")) (hxC : x ≠ 100) (hn : (name == ("__class__" : Str)) = false)
    (hx : s.heap.get? x = some ox) (hxc : ox.cls = .ref 100) (hsub : Looks (model prog w) s.heap (isSubtype (.ref 100) (.type "list")) true) (how : ".".intercalate (id.cutAt '.').dropLast = "list")
    (hq : Q (.ref s.heap.objs.size, []) { s with heap := s.heap.push (mwObj id x), toks := s.toks + 1 }) : wpAny (model prog w) A (getMethod (.ref so) name pl) Q E s := by
  obtain ⟨h, g, dr, t, os⟩ := s
  have hlk := F.ks_slot_super_ga.lookup
  have hcan := F.ks_canon_super_ga
  have hT : ∀ t', (⟨h, g, dr, t', os⟩ : Shared).TypeIs (.ref so) "super" := fun _ => ⟨_, hso, rfl⟩
  unfold getMethod
  refine wpAny_bind (wpAny_specialOf (hT _) hlk ?_)
  show wpAny _ _ (if (Manifest.canonical "super.__getattribute__" != "object.__getattribute__") = true then _ else _) _ _ _
  rw [if_pos hcan]
  unfold getAttr getAttrBy
  refine wpAny_bind (wpAny_bind (wpAny_mkText (wpAny_holding (wpAny_bind (wpAny_typeOf (hT _) (wpAny_bind (wpAny_of_eq hlk ?_)))))))
  show wpAny _ _ (getAttrByItsOwn (.ref so) (.str name t) (.type "super") (.builtin "super.__getattribute__") true false) _ _ _
  unfold getAttrByItsOwn hookBefore callGetattribute boundAndCalled
  refine wpAny_bind (wpAny_of_eq (show (if onTheHeap (.type "super") then typeLookup (.type "super") "__getattr__" else pure none) = pure none from rfl) ?_)
  refine wpAny_bind (wpAny_attempt (wpAny_holding ?_))
  show wpAny _ _ (bindSpecial (.builtin "super.__getattribute__") (.ref so) >>= _) _ _ _
  refine wpAny_bind (wpAny_of_eq (F.ks_slot_super_ga.bind _) ?_)
  refine wpAny_mono (Q := fun v s' => v = .ref h.objs.size ∧ s' = ⟨h.push (mwObj id x), g, dr, t + 1, os⟩) (E := fun _ _ => False)
    (wpAny_call_entry F.ks_slot_super_ga (hT _) F.ks_entry_super_ga (super_ga_bi hso hno hC hl X hf hty hxC hn hx hxc hsub how ⟨_, rfl, rfl, rfl⟩) (F.ks_gaArgs_super _ _)) (fun v s' hv => ?_) fun _ _ z => z.elim
  obtain ⟨rfl, rfl⟩ := hv
  exact wpAny_pure (wpAny_pure hq)
theorem callWith_mw {id : String} {bi : Builtin} {mw : Addr} {pos : Pos} {Q : Value → Shared → Prop} (hm : s.heap.get? mw = some (mwObj id x)) (hc : checkBoundCall id ⟨[.ref x], []⟩ = pure ()) (hp : plainId id = true) (he : entryFor table id = some bi)
    (h : ∀ A' : Around, wpAny (model prog w) A' (bi ⟨[.ref x], []⟩) (fun fin s' => ∃ v, fin = .done (.ret v) ∧ Q v s') E s) : wpAny (model prog w) A (callWith pos (.ref mw) [] [] []) Q E s := by
  have run : wpAny (model prog w) A (call (.ref mw) []) Q E s := by
    refine wpAny_call (codeAny_of_tree ?_)
    show wpAny _ A.in1 (callAny (.ref mw) _) _ _ _
    unfold callAny
    refine wpAny_bind (wpAny_load hm ?_)
    show wpAny _ _ (checkBoundCall id ⟨[.ref x], []⟩ >>= fun _ => again (.builtin id ⟨[.ref x], []⟩)) _ _ _
    rw [hc]
    refine wpAny_bind (wpAny_pure (wpAny_pure ⟨plainId_quiet hp _, codeAny_builtin he ?_⟩))
    exact wpAny_mono (h _) (fun fin s' h' => by obtain ⟨v, rfl, hv⟩ := h'; exact hv) (fun _ _ z => z)
  unfold callWith
  refine wpAny_bind (wpAny_holding (Q := fun a s' => a = ⟨[], []⟩ ∧ s' = s) (wpAny_of_eq (a := (⟨[], []⟩ : Args)) rfl ⟨rfl, rfl⟩) |> fun k => wpAny_mono k (fun a s' ha => ?_) (fun _ _ z => z))
  obtain ⟨rfl, rfl⟩ := ha
  refine wpAny_bind (wpAny_standAt ?_)
  dsimp only
  refine wpAny_bind (m := keeperOf _) ?_
  unfold keeperOf
  refine wpAny_bind (wpAny_load hm ?_)
  refine wpAny_pure (a := Keeper.machine) ?_
  exact wpAny_bind (wpAny_mono run (fun r s₂ hr => wpAny_bind (wpAny_holding (wpAny_point (wpAny_pure hr)))) fun _ _ x => x)
theorem len_body {Q : Value → Shared → Prop} (hx : s.heap.get? x = some (winObj d its ep)) (h : Q (.int its.length s.toks) { s with toks := s.toks + 1 }) :
    wpAny (model prog w) A (Builtin.«list.__len__» ⟨[.ref x], []⟩) (fun fin s' => ∃ v, fin = .done (.ret v) ∧ Q v s') E s := by
  obtain ⟨hp, g, dr, tk, os⟩ := s
  unfold Builtin.«list.__len__»
  show wpAny _ _ (seqSize x >>= fun n => retInt n) _ _ _
  unfold seqSize
  refine wpAny_bind (wpAny_bind (wpAny_loadPart hx (wpAny_pure ?_)))
  exact wpAny_bind (wpAny_mkInt (wpAny_pure ⟨_, rfl, by simpa using h⟩))
theorem init_body {Q : Value → Shared → Prop} (hx : s.heap.get? x = some (winObj d [] ep)) (h : ∀ h' ep', Heap.SameBut x s.heap h' → h'.get? x = some (winObj d [] ep') → Q .none { s with heap := h' }) :
    wpAny (model prog w) A (Builtin.«list.__init__» ⟨[.ref x], []⟩) (fun fin s' => ∃ v, fin = .done (.ret v) ∧ Q v s') E s := by
  unfold Builtin.«list.__init__»
  show wpAny _ _ (Builtin.List.listItems (.ref x) >>= _) _ _ _
  unfold Builtin.List.listItems
  refine wpAny_bind (wpAny_bind (wpAny_seqItems hx rfl (wpAny_pure ?_)))
  refine wpAny_bind (m := updateSeq x _) (wpAny_updateSeq hx rfl ?_ (by simp) (by simp))
  obtain ⟨ep', e⟩ := win_upd (f := fun _ => #[]) (its' := []) hx rfl
  refine wpAny_bind (wpAny_of_eq (a := ()) (by first | rfl | kernel_rfl) ?_)
  exact wpAny_pure ⟨_, rfl, h _ ep' (Heap.SameBut.update ..) e⟩
end
section
variable {prog : Program} {w : World} {A : Around} {s : Shared} {K : Frag} {R : Result → Shared → Prop}
theorem enterS_ {mo : List (Addr × Obj)} {name qual : Str} {params : Arguments} {body : List Stmt} {scope : Scope} {dV kV doc pm cdv ct oc : Value} {an od : Option Addr} {osl : Array (Option Value)} {f cc : Addr} {args : Args} {binds : List (Str × Value)}
    (X : K.In (hideAll s.heap (mo.map (·.1)))) (hlim : (hideAll s.heap (mo.map (·.1))).NoLimit) (hm : ∀ p ∈ mo, s.heap.get? p.1 = some p.2)
    (ho : K.lookup f = some ⟨oc, od, .func (ksFn name qual params body scope dV kV doc pm an cdv ct cc), osl⟩) (hcd : codeIn K cdv qual = true) (hroom : A.depth < recursionLimit)
    (hbind : BindsTo s (ksFn name qual params body scope dV kV doc pm an cdv ct cc) args binds) (hloc : ∀ y ∈ binds, scope.names.lookup y.1 = some .local)
    (h : ∀ g h₁, (∀ b o, s.heap.get? b = some o → b ∉ mo.map (·.1) → g.get? b = some o) → K.In g → g = hideAll s.heap (mo.map (·.1)) → Fr g s.heap.objs.size h₁ (fun y => binds.reverse.lookup y) → News g s.heap.objs.size h₁ mo →
      _root_.PySem.wpAt (model prog w) (A.deeper (ksEnv qual scope s.heap.objs.size f cdv cc)) (.func body (ksEnv qual scope s.heap.objs.size f cdv cc)) (execs body (ksEnv qual scope s.heap.objs.size f cdv cc))
        (fun fl s' => R (.ok (.ret (match fl with | .ret v => v | _ => .none))) s')
        (fun e s' => wpAny (model prog w) (A.deeper (ksEnv qual scope s.heap.objs.size f cdv cc)) (leaving (ksEnv qual scope s.heap.objs.size f cdv cc) e) (fun _ s'' => R (.error e) s'') (fun e' s'' => R (.error e') s'') s')
        { s with heap := h₁, toks := s.toks + binds.length })
    (hco : scope.isCoroutine = false := by rfl) (hgen : scope.isGenerator = false := by rfl) (hk : scope.kind = .function := by rfl)
    (hcell : ∀ x ∈ scope.names, x.2 ≠ .cell := by decide) : codeAny (model prog w) A (.call (.ref f) args) R s := by
  have up : ∀ b o, (hideAll s.heap (mo.map (·.1))).get? b = some o → s.heap.get? b = some o := fun b o e => of_hideAll _ e
  refine ks_codeAny_call_defAt (fd := ksFn name qual params body scope dV kV doc pm an cdv ct cc) (body := body) (binds := binds) hroom (up _ _ (X _ _ ho)) rfl (hlim.keeps up) ((codeRec_of X hcd).keeps up) rfl hbind hcell hloc (fun h₁ hns hk₁ => ?_) hco hgen hk
  refine h _ h₁ (fun b o e n => hideAll_get _ e n) X rfl ⟨hns, fun b o e => hk₁ b o (of_hideAll _ e), Nat.le_of_eq (hideAll_size _ _)⟩ ?_
  intro p hp
  exact ⟨hk₁ _ _ (hm p hp), Nat.ne_of_lt (Heap.lt_size (hm p hp)), hideAll_none _ (List.mem_map_of_mem hp)⟩
end
section
variable {w : World} {A : Around} {E : Value → Shared → Prop} {s : Shared} {h₀ : Heap} {L : Addr} {m mg mb : Str → Option Value} {x f cc cda so : Addr} {ox : Obj} {odx : Option Obj}
theorem super_node {body : List Stmt} {q : Str} {scope : Scope} {p0 p1 : Pos} {attr : Str} {whole : Sem Value} {fd : FuncData} {ar : Arg} {vs : Array Value} {file : Str} {tf : Tok} {oc ccl cl : Value} {od cdd cld : Option Addr} {osl ccs csl : Array (Option Value)} {cdD : ClassData} {K : Frag} {Q : Value → Shared → Prop}
    (F : Fr h₀ L s.heap m) (X₀ : K.In h₀) (T : Tp mg mb h₀)
    (hf : K.lookup f = some ⟨oc, od, .func fd, osl⟩) (hp : (fd.params.posonlyargs ++ fd.params.args).head? = some ar) (hv : m ar.arg = some (.ref x)) (I : InstAt s.heap x ox 100 odx)
    (hcode : K.lookup cda = some ⟨ccl, cdd, .fields vs, ccs⟩) (hvs : vs[2]? = some (.str file tf)) (hfile : ((Pg.main.file : Str) == file) = true)
    (hcell : K.lookup cc = some ⟨cl, cld, .cell (some (.ref 100)), csl⟩) (hD : clsIn K 100 = some cdD) (hsub : mroIn K 100 (.ref 100) = some true) (hsuper : nsIn K mainGlobals "super" = some none)
    (hat : (attr == ("__class__" : Str)) = false) (hks : scope.names.lookup ("super" : Str) = some .globalImplicit) (hkc : scope.names.lookup ("__class__" : Str) = some .free) (hka : scope.names.lookup ar.arg = some .local) (hk : scope.kind = .function)
    (htop : (Pg.main.scope.names.lookup ("super" : Str)).isSome = false) (hboot : bootBuiltins "super" = some (.type "super"))
    (h : ∀ h', (∀ b o, s.heap.get? b = some o → h'.get? b = some o) → h'.get? s.heap.objs.size = some (ks_superObj 100 x 100) → Q (.ref s.heap.objs.size) { s with heap := h' }) :
    _root_.PySem.wpAt (model Pg w) A (.func body (ksEnv q scope L f (.ref cda) cc)) (attributeBase (.Call (.Name "super" p0) [] [] p1) attr (ksEnv q scope L f (.ref cda) cc) whole) Q E s := by
  have X : K.In s.heap := X₀.keeps F.keep
  obtain ⟨hh, g, d, t, os⟩ := s
  obtain ⟨oD, hD1, hD2⟩ : ∃ oD, hh.get? 100 = some oD ∧ oD.data = .cls cdD := by
    unfold clsIn at hD
    split at hD
    · rename_i c d cd' sl ho
      cases hD
      exact ⟨_, X _ _ ho, rfl⟩
    · cases hD
  refine ks_wpAt_super_base (env := ksEnv q scope L f (.ref cda) cc) hks hkc hat rfl (X _ _ hf) rfl hp rfl (X _ _ hcode) rfl hvs hfile htop ?_
  refine ks_loadName_global hk hks (Calls.loadGlobal_builtin (env := ksEnv q scope L f (.ref cda) cc) (T.g.keeps F.keep) (mg_none_of X₀ T.g hsuper) (T.b.keeps F.keep) ((T.builtins _ (by decide +kernel)).trans hboot) ⟨rfl, ?_⟩)
  refine wpAny_loadName_free hk hkc rfl ⟨_, X _ _ hcell, rfl⟩ ?_
  refine wpAny_loadName_local hk hka F.ns hv ?_
  refine ks_wpAny_isType_cls hD1 hD2 ⟨rfl, ?_⟩
  refine ks_wpAny_call_super hD1 hD2 I.at_ I.cls (fun c e => ?_) (looks_mroIn X hsub) (fun h' e k => h h' k e)
  have := I.no
  unfold notCls at this
  rw [e] at this
  exact Bool.noConfusion this
end
theorem words_p18_0 : True := by
  k_with "mine enterS" => ((case k1 => assumption); (case k2 => exact TopRead.nolimit (by assumption)); (case k4 => k_is); (case k5 => k_is); (case k6 => (try dsimp only); omega); (case k7 => first | exact BindsTo.of_eq rfl | exact binds_K (by assumption) rfl (by k_is) rfl rfl rfl); (case k8 => exact locs rfl); (case c1 => exact rfl); (case c2 => exact rfl); (case c3 => exact rfl); (case c4 => decide))
  trivial
section
variable {w : World} {mg mb : Str → Option Value} {dp un : Nat} {fr : Option (List Env)} {gd : Option (List Code)} {s : Shared} {Q E : Value → Shared → Prop} {h₀ : Heap}
theorem part_count_ok {x d : Addr} {its : List Value} {ep n : Nat} {hh sz : Int} {kt tz : Tok} (G : Ok w mg mb h₀) (hk : ∀ b o, h₀.get? b = some o → s.heap.get? b = some o)
    (hx : s.heap.get? x = some (winObj d its ep)) (hx0 : h₀.get? x = none) (hd : s.heap.get? d = some (szObj hh kt tz sz n)) (hd0 : h₀.get? d = none)
    (hdp : dp + 20 < recursionLimit)
    (hQ : ∀ t h' tk', (∀ b o, s.heap.get? b = some o → h'.get? b = some o) → Q (.int its.length t) { s with heap := h', toks := tk' }) :
    wpAny (model Pg w) (Ar dp fr gd un) (call (.ref 97) [.ref x]) Q E s := by
  w_top on
  obtain ⟨X, T⟩ := Ok.hide G hk (as := [x, d]) (by simp [hx0, hd0])
  have hmo : ∀ p' ∈ [(x, winObj d its ep), (d, szObj hh kt tz sz n)], s.heap.get? p'.1 = some p'.2 := fun p' hp => by
    rcases List.mem_cons.mp hp with rfl | hp
    · exact hx
    · rw [List.mem_singleton.mp hp]; exact hd
  have XS := X.keeps (fun _ _ e => of_hideAll _ e)
  refine wpAny_call ?_
  k_dflt (refine' enterS_ (mo := [(x, winObj d its ep), (d, szObj hh kt tz sz n)]) (binds := [("self", .ref x)]) (K := Mine.hd.heap_39 w.params) ?k1 ?k2 ?k3 ?k4 ?k5 ?k6 ?k7 ?k8 ?_ ?c1 ?c2 ?c3 ?c4; (case k3 => exact hmo); walk_at "mine enterS")
  intro g h₁ hg X' hge F N
  have T' : Tp mg mb g := by rw [hge]; exact T
  have hx1 := (N _ (.head _)).1
  have hd1 := (N _ (.tail _ (.head _))).1
  obtain ⟨cd, c1, c2, c3⟩ := cls100 w
  have keep := keepMo hg hmo F fun p' hp => (N p' hp).1
  refine ks_wpAt_execs_cons (ks_wpAt_Return_some (ks_wpAt_MethodCall ?_))
  k_dflt (refine' super_node (K := Mine.hd.heap_39 w.params) (x := x) F X' T' ?k1 ?k2 ?k3 (win_at hx1 hd1) ?k4 ?k5 ?k6 ?k7 c1 ?k8 ?k9 ?ka ?kb ?kc ?kd ?ke ?kf ?kg ?_; (case k1 => k_is); (case k2 => rfl); (case k3 => rfl); (case k4 => k_is); (case k5 => rfl); (case k6 => kernel_rfl); (case k7 => k_is); (case k8 => k_is); (case k9 => k_is); (case ka => rfl); (case kb => rfl); (case kc => rfl); (case kd => rfl); (case ke => rfl); (case kf => kernel_rfl); (case kg => kernel_rfl))
  intro h' k' e'
  have X2 := (X'.keeps F.keep).keeps k'
  have hc2 : Looks (model Pg w) h' (mroOf (.ref 100)) cd.mro := fun A Q E s k q => wpAny_bind ((looks_clsIn X2 c1) A _ E s k (wpAny_pure q))
  have hx2 := k' _ _ hx1
  refine super_method_bi (K := Mine.hd.heap_39 w.params) (id := "list.__len__") (l := [.type "list", .type "object"]) e' (looks_opaque X2 (by k_is)) hc2 (by rw [c2]; decide) X2 (by kernel_rfl) ty_list_len ?_ rfl hx2 rfl (looks_mroIn X2 (by k_is)) (by decide +kernel) ?_
  · exact ks_ne X2 (win_at hx2 (k' _ _ hd1)) c1
  refine callWith_mw (bi := Builtin.«list.__len__») (Heap.get?_push_size _ rfl) (by kernel_rfl) (by decide +kernel) (entryFor_of_tree (by kernel_rfl)) fun A' => ?_
  refine len_body (Heap.get?_push_of_some _ hx2) ?_
  exact hQ _ _ _ fun b o e => Heap.get?_push_of_some _ (k' _ _ (keep b o e))
end
section
variable {w : World} {mg mb : Str → Option Value} {A : Around} {s : Shared} {R : Result → Shared → Prop} {h₀ : Heap}
theorem init_ok {x d : Addr} {ep : Nat} {a : Int} {t : Tok} (G : Ok w mg mb h₀) (hk : ∀ b o, h₀.get? b = some o → s.heap.get? b = some o)
    (hx : s.heap.get? x = some (winObj d [] ep)) (hx0 : h₀.get? x = none) (hd : s.heap.get? d = some (dictOf [] 0)) (hd0 : h₀.get? d = none) (hxd : x ≠ d)
    (hdp : A.depth + 20 < recursionLimit)
    (hQ : ∀ hh kt n ep' h' tk', (∀ b o, b ≠ x → b ≠ d → s.heap.get? b = some o → h'.get? b = some o) → h'.get? x = some (winObj d [] ep') → h'.get? d = some (szObj hh kt t a n) → R (.ok (.ret .none)) { s with heap := h', toks := tk' }) :
    codeAny (model Pg w) A (.call (.ref 38) ⟨[.ref x, .int a t], []⟩) R s := by
  w_top on
  obtain ⟨X, T⟩ := Ok.hide G hk (as := [x, d]) (by simp [hx0, hd0])
  have hmo : ∀ p' ∈ [(x, winObj d [] ep), (d, dictOf [] 0)], s.heap.get? p'.1 = some p'.2 := fun p' hp => by
    rcases List.mem_cons.mp hp with rfl | hp
    · exact hx
    · rw [List.mem_singleton.mp hp]; exact hd
  have XS := X.keeps (fun _ _ e => of_hideAll _ e)
  k_dflt (refine' enterS_ (mo := [(x, winObj d [] ep), (d, dictOf [] 0)]) (binds := [("self", .ref x), ("initial_size", .int a t)]) (K := Mine.hd.heap_39 w.params) ?k1 ?k2 ?k3 ?k4 ?k5 ?k6 ?k7 ?k8 ?_ ?c1 ?c2 ?c3 ?c4; (case k3 => exact hmo); walk_at "mine enterS")
  intro g h₁ hg X' hge F N
  have T' : Tp mg mb g := by rw [hge]; exact T
  have hx1 := (N _ (.head _)).1
  have hdN := N _ (.tail _ (.head _))
  have hd1 := hdN.1
  have hxN := N _ (.head _)
  obtain ⟨cd, c1, c2, c3⟩ := cls100 w
  have keep := keepMo hg hmo F fun p' hp => (N p' hp).1
  refine ks_wpAt_execs_cons (ks_wpAt_Assign_Attr (wpAt_of_wpAny (wpAny_Name (wpAny_loadName_local rfl rfl F.ns rfl (wpAny_Name (wpAny_loadName_local rfl rfl F.ns rfl ?_))))))
  k_dflt (refine' win_setAttr (K := Mine.hd.heap_39 w.params) (es := []) (X'.keeps F.keep) (win_at hx1 hd1) c1 c2 c3 ?k5 ?k6 ?k7 ?k8 ?k9 ?_; (case k5 => k_is); (case k6 => k_is); (case k7 => rfl); (case k8 => rfl); (case k9 => exact Nat.le_of_ble_eq_true rfl))
  intro h₂ hs2 hd2
  have F2 := frS F hs2 hdN.2.1 hdN.2.2
  have hx2 := (hs2.2 x hxd).trans hx1
  refine ks_wpAt_execs_cons (ks_wpAt_Expr_any (ks_wpAt_MethodCall ?_))
  k_dflt (refine' super_node (K := Mine.hd.heap_39 w.params) (x := x) F2 X' T' ?k1 ?k2 ?k3 (win_at hx2 hd2) ?k4 ?k5 ?k6 ?k7 c1 ?k8 ?k9 ?ka ?kb ?kc ?kd ?ke ?kf ?kg ?_; (case k1 => k_is); (case k2 => rfl); (case k3 => rfl); (case k4 => k_is); (case k5 => rfl); (case k6 => kernel_rfl); (case k7 => k_is); (case k8 => k_is); (case k9 => k_is); (case ka => rfl); (case kb => rfl); (case kc => rfl); (case kd => rfl); (case ke => rfl); (case kf => kernel_rfl); (case kg => kernel_rfl))
  intro h' k' e'
  have X2 := (X'.keeps F2.keep).keeps k'
  have hc2 : Looks (model Pg w) h' (mroOf (.ref 100)) cd.mro := fun A Q E s k q => wpAny_bind ((looks_clsIn X2 c1) A _ E s k (wpAny_pure q))
  have hx3 := k' _ _ hx2
  have hd3 := k' _ _ hd2
  refine super_method_bi (K := Mine.hd.heap_39 w.params) (id := "list.__init__") (l := [.type "list", .type "object"]) e' (looks_opaque X2 (by k_is)) hc2 (by rw [c2]; decide) X2 (by kernel_rfl) ty_list_init ?_ rfl hx3 rfl (looks_mroIn X2 (by k_is)) (by decide +kernel) ?_
  · exact ks_ne X2 (win_at hx3 hd3) c1
  refine callWith_mw (bi := Builtin.«list.__init__») (Heap.get?_push_size _ rfl) (by kernel_rfl) (by decide +kernel) (entryFor_of_tree (by kernel_rfl)) fun A' => ?_
  refine init_body (Heap.get?_push_of_some _ hx3) ?_
  intro h₅ ep' hs5 hx5
  refine wpAt_of_wpAny (wpAny_pure ?_)
  exact hQ _ _ _ ep' h₅ _ (fun b o hb hbd e => (hs5.2 b hb).trans (Heap.get?_push_of_some _ (k' _ _ ((hs2.2 b hbd).trans (keep b o e))))) hx5 ((hs5.2 d (Ne.symm hxd)).trans (Heap.get?_push_of_some _ hd3))
end
theorem ln_kind : builtinKind "list.__new__" = some .builtinFn := by decide +kernel
theorem ln_split : splitId "list.__new__" = some ("list", "__new__") := by decide +kernel
structure MakesL (M : Model) (h : Heap) (C : Addr) : Prop where
  obj : ∃ oc od cd sl, h.get? C = some ⟨oc, od, .cls cd, sl⟩ ∧ cd.abstract = false ∧ cd.hasDel = false ∧ cd.mro.isEmpty = false
  made : Looks M h (Bind.madeBy (.ref C)) (some "list.__new__")
  base : Looks M h (Bind.staticBase (.ref C)) (.ref C)
  self : Looks M h (isSubtype (.ref C) (.ref C)) true
  top : Looks M h (isSubtype (.ref C) (.type "list")) true
  call : Looks M h (specialOf (.ref C) "__call__") (some (.builtin "type.__call__"))
  typ : Looks M h (isInstance (.ref C) (.type "type")) true
noncomputable def makesInL (K : Frag) (C : Addr) : Bool := match K.lookup C with
  | some ⟨_, _, .cls cd, sl⟩ => !cd.abstract && !cd.hasDel && (sl.toList[4]?).join == some (.builtin "list.__new__") && !cd.mro.isEmpty && cd.mro.contains (.ref C) && cd.mro.contains (.type "list") &&
      specialIn K (.ref C) "__call__" == some (some (.builtin "type.__call__")) && instIn K (.ref C) (.type "type") == some true
  | _ => false
theorem makesL_of {K : Frag} {M : Model} {h : Heap} (X : K.In h) {C : Addr} (e : makesInL K C = true) : MakesL M h C := by
  unfold makesInL at e
  split at e
  · rename_i oc od cd sl ho
    simp only [Bool.and_eq_true, Bool.not_eq_true', beq_iff_eq] at e
    obtain ⟨⟨⟨⟨⟨⟨⟨e1, e2⟩, e3⟩, e4⟩, e5⟩, e6⟩, e7⟩, e8⟩ := e
    have hc : clsIn K C = some cd := by unfold clsIn; rw [ho]
    have hm : Looks M h (mroOf (.ref C)) cd.mro := (looks_clsIn X hc).andThen .now
    obtain ⟨c, l, hl⟩ : ∃ c l, cd.mro = c :: l := by cases q : cd.mro with | nil => rw [q] at e4; cases e4 | cons c l => exact ⟨c, l, rfl⟩
    have made : Looks M h (Bind.madeBy (.ref C)) (some "list.__new__") := by
      intro A Q E s k q
      unfold Bind.madeBy
      refine wpAny_bind (hm A _ E s k ?_)
      rw [hl, List.forIn_cons]
      refine wpAny_bind (wpAny_bind (wpAny_bind (wpAny_bind (wpAny_loadPart (k _ _ (X _ _ ho)) (wpAny_pure ?_)))))
      dsimp only
      rw [← Array.getElem?_toList, e3]
      exact wpAny_pure (wpAny_pure (wpAny_pure q))
    refine ⟨⟨oc, od, cd, sl, X _ _ ho, e1, e2, e4⟩, made, ?_, looks_mroIn X ?_, looks_mroIn X ?_, looks_specialIn X e7, looks_instIn X e8⟩
    · intro A Q E s k q
      unfold Bind.staticBase
      refine wpAny_bind (hm A _ E s k ?_)
      rw [hl, List.forIn_cons]
      exact wpAny_bind (wpAny_bind (wpAny_bind (made A _ E s k (wpAny_pure (wpAny_pure (wpAny_pure q))))))
    · unfold mroIn; rw [hc, Option.bind_some, if_neg (by rw [e4]; decide), e5]
    · unfold mroIn; rw [hc, Option.bind_some, if_neg (by rw [e4]; decide), e6]
  · cases e
theorem makes100 (w : World) : makesInL (Mine.hd.heap_39 w.params) 100 = true := by kernel_rfl
theorem ln_row : Manifest.signature? "list.__new__" = some ⟨.any, "list", "list", .cls, [⟨"args", .varPos, false⟩, ⟨"kwargs", .varKw, false⟩]⟩ := by kernel_rfl
theorem ln_args (a : Value) : Bind.checkArgs "list.__new__" ⟨.any, "list", "list", .cls, [⟨"args", .varPos, false⟩, ⟨"kwargs", .varKw, false⟩]⟩ ⟨[.ref 100, a], []⟩ = pure () := by kernel_rfl
section
variable {prog : Program} {w : World} {A : Around} {R : Result → Shared → Prop} {h : Heap} {g : Array GenState} {d : Drawn} {t : Nat} {os : OsState}
theorem new_list {a : Value} (Y : MakesL (model prog w) h 100)
    (hq : R (.ok (.ret (.ref (h.objs.size + 1)))) ⟨(h.push (dictOf [] 0)).push (winObj h.objs.size [] 0), g, d, t, os⟩) :
    codeAny (model prog w) A (.call (.builtin "list.__new__") ⟨[.ref 100, a], []⟩) R ⟨h, g, d, t, os⟩ := by
  obtain ⟨⟨oc, od, cd, sl, hC, e1, e2, e4⟩, made, base, self, top, call, typ⟩ := Y
  refine codeAny_call_builtin_code (plainId_quiet F.plain_list_new _) ?_
  simp only [checkBuiltinCall, ln_kind, ln_split, ln_row]
  have here : Looks (model prog w) h (Bind.madeHere "list.__new__" (.ref 100)) () := base.andThen (made.andThen (Looks.of_pure (by simp only [Option.map_some, bne_self_eq_false, Bool.false_eq_true, if_false])))
  rw [ln_args]
  repeat (first | simp only [bne_self_eq_false, Bool.false_eq_true, if_false] | lk)
  refine codeAny_builtin_stack F.entry_list_new rfl fun p st => ?_
  rw [Around.under_plainId F.plain_list_new _]
  have hown := owner_list_new
  simp only [hown]
  refine wpAny_bind (ks_wpAny_isType_cls hC rfl ?_)
  rw [if_neg (by decide)]
  refine wpAny_bind (top.at ?_)
  rw [if_neg (by decide)]
  refine wpAny_bind (wpAny_pure ?_)
  rw [if_neg (show ¬ ((!typeHasDict (.ref 100)) = true) by decide)]
  unfold newDict
  refine wpAny_bind (wpAny_newObj_type ?_ (by size_fits))
  show wpAny _ _ (newObj (.ref 100) (.seq #[]) (some _) >>= _) _ _ _
  refine wpAny_bind ?_
  unfold newObj
  dsimp only
  rw [if_neg (show ¬ ((#[] : Array Value).size > sizeLine) from Nat.not_lt_zero _)]
  unfold newObjAsIs classHasDel
  refine wpAny_bind (wpAny_alloc (wpAny_bind (wpAny_bind (wpAny_load (Heap.get?_push_of_some _ (Heap.get?_push_of_some _ hC)) (wpAny_pure ?_)))))
  rw [e2]
  refine wpAny_pure (wpAny_pure ?_)
  show R _ _
  rw [Heap.size_push]
  exact hq
theorem make_core_L {a : Value} (Y : MakesL (model prog w) h 100) (hi : Looks (model prog w) h (typeLookup (.ref 100) "__init__") (some (.ref 38)))
    (hb : ∀ self, Looks (model prog w) h (bindSpecial (.ref 38) self) (.ref 38, [self]))
    (hq : codeAny (model prog w) (A.under (.builtin "type.__call__" ⟨[.ref 100, a], []⟩)) (.call (.ref 38) ⟨[.ref (h.objs.size + 1), a], []⟩) (InitBack (h.objs.size + 1) R) ⟨(h.push (dictOf [] 0)).push (winObj h.objs.size [] 0), g, d, t, os⟩) :
    codeAny (model prog w) A (.call (.ref 100) ⟨[a], []⟩) R ⟨h, g, d, t, os⟩ := by
  have Y' := Y
  obtain ⟨⟨oc, od, cd, sl, hC, e1, e2, e4⟩, made, base, self, top, call, typ⟩ := Y
  refine codeAny_of_tree ?_
  show wpAny _ _ (callAny (.ref 100) _) _ _ _
  refine nd_load hC ?_
  show wpAny _ _ (callAny.viaDunder (.ref 100) _) _ _ _
  unfold callAny.viaDunder
  refine wpAny_bind (call.at ?_)
  dsimp only
  rw [tc_bind]
  refine wpAny_bind (wpAny_pure (wpAny_bind (wpAny_pure ?_)))
  refine wpAny_pure (a := Fin.again (.call (.builtin "type.__call__") ⟨[.ref 100, a], []⟩)) (And.intro rfl ?_)
  refine codeAny_call_builtin_at (Code.quiet_builtin _ (by decide +kernel)) entry_typeCall (check_slot tc_kind tc_split typ (tc_args _ _ _) ?_)
  unfold Builtin.«type.__call__»
  have hm : Looks (model prog w) h (mroOf (.ref 100)) cd.mro := ((Looks.ld (part := none) hC).andThen .now).andThen .now
  repeat (first | simp only [e4, Bool.false_eq_true, if_false] | with_reducible refine wpAny_call ?_ | lk)
  refine new_list Y' ?_
  have k : ∀ b o, h.get? b = some o → ((h.push (dictOf [] 0)).push (winObj h.objs.size [] 0)).get? b = some o := fun b o e => Heap.get?_push_of_some _ (Heap.get?_push_of_some _ e)
  have hx : ((h.push (dictOf [] 0)).push (winObj h.objs.size [] 0)).get? (h.objs.size + 1) = some (winObj h.objs.size [] 0) := by heap_get
  have t1 : Looks (model prog w) ((h.push (dictOf [] 0)).push (winObj h.objs.size [] 0)) (typeOf (.ref (h.objs.size + 1))) (.ref 100) := (Looks.ld hx).andThen .now
  have s1 := self.keeps k
  have i1 := hi.keeps k
  have b1 := (hb (.ref (h.objs.size + 1))).keeps k
  unfold isInstance callSpecial? specialOf
  repeat (first | with_reducible refine wpAny_call ?_ | lk)
  refine codeAny_mono hq fun r s' z => ?_
  rcases r with e | (v | _ | _ | _) <;> first | exact z | exact z.elim | skip
  obtain ⟨rfl, z⟩ := z
  exact wpAny_pure (wpAny_pure z)
end
section
variable {w : World} {mg mb : Str → Option Value} {dp un : Nat} {fr : Option (List Env)} {gd : Option (List Code)} {s : Shared} {Q E : Value → Shared → Prop} {h₀ : Heap}
theorem make_ok {a : Int} {t : Tok} (G : Ok w mg mb h₀) (hk : ∀ b o, h₀.get? b = some o → s.heap.get? b = some o) (hz : h₀.objs.size ≤ s.heap.objs.size) (hdp : dp + 21 < recursionLimit)
    (hQ : ∀ x d hh kt n ep h' tk', (∀ b o, s.heap.get? b = some o → h'.get? b = some o) → s.heap.get? x = none → s.heap.get? d = none → d < x → s.heap.objs.size ≤ d → h'.get? x = some (winObj d [] ep) → h'.get? d = some (szObj hh kt t a n) → Q (.ref x) { s with heap := h', toks := tk' }) :
    wpAny (model Pg w) (Ar dp fr gd un) (call (.ref 100) [.int a t]) Q E s := by
  obtain ⟨hp, gg, dr, tt, os⟩ := s
  have X := G.x.keeps hk
  refine wpAny_call (make_core_L (makesL_of X (makes100 w)) (looks_findIn X (by kernel_rfl)) (fun self => bind_fn X self (by kernel_rfl)) ?_)
  have k : ∀ b o, hp.get? b = some o → ((hp.push (dictOf [] 0)).push (winObj hp.objs.size [] 0)).get? b = some o := fun b o e => Heap.get?_push_of_some _ (Heap.get?_push_of_some _ e)
  have nn : ∀ a, hp.objs.size ≤ a → hp.get? a = none := fun a ha => by
    cases q : hp.get? a with
    | none => rfl
    | some o => exact absurd (Heap.lt_size q) (Nat.not_lt.mpr ha)
  have nn0 : ∀ a, hp.objs.size ≤ a → h₀.get? a = none := fun a ha => by
    cases q : h₀.get? a with
    | none => rfl
    | some o => have := hk _ _ q; rw [nn a ha] at this; cases this
  refine init_ok (x := hp.objs.size + 1) (d := hp.objs.size) (ep := 0) G (fun b o e => k b o (hk b o e)) (by heap_get) (nn0 _ (Nat.le_succ _)) (by heap_get) (nn0 _ (Nat.le_refl _)) (Nat.succ_ne_self _) ?_ ?_
  · rw [PyProof.Rows.depth_under_make]; show dp + 1 + 20 < _; exact hdp
  · intro hh kt n ep' h' tk' keep hx hd
    refine ⟨rfl, ?_⟩
    exact hQ _ _ hh kt n ep' h' tk' (fun b o e => keep b o (Nat.ne_of_lt (Nat.lt_succ_of_lt (Heap.lt_size e))) (Nat.ne_of_lt (Heap.lt_size e)) (k b o e)) (nn _ (Nat.le_succ _)) (nn _ (Nat.le_refl _)) (Nat.lt_succ_self _) (Nat.le_refl _) hx hd
end
section
variable {prog : Program} {w : World} {A : Around} {E : Value → Shared → Prop} {s : Shared}
theorem sum_pick {Q : Value → Shared → Prop} {g : Heap} {L l : Addr} {m : Str → Option Value} {news : List (Addr × Obj)} {vs : List Value} {ns : List Int} {lo hi st : Option Int} {n : Nat} (hh : A.handled = none) (F : Fr g L s.heap m) (N : News g L s.heap news)
    (hm : (l, ({ cls := .type "list", data := .seq (slicePick vs.toArray lo hi st) n } : Obj)) ∈ news) (hI : IntsAre vs ns)
    (hQ : ∀ h' tk t, (∀ b o, s.heap.get? b = some o → h'.get? b = some o) → Fr g L h' m → News g L h' news → Q (.int (pickNums ns lo hi st).sum t) { s with heap := h', toks := tk }) :
    wpAny (model prog w) A (call (.builtin "sum") [.ref l]) Q E s := by
  have hp := hI.pick lo hi st
  have hl : s.heap.IsList l (slicePick vs.toArray lo hi st) := ⟨_, (N _ hm).1, rfl, n, rfl⟩
  have hall : AllInts (slicePick vs.toArray lo hi st) := by simpa using hp.allInts
  have e := hp.numsOf
  revert hl e hall
  generalize slicePick vs.toArray lo hi st = items
  intro hl hall e
  obtain ⟨xs, rfl⟩ := hall.items
  rw [nums_intItems] at e
  refine sum_intListG hh hl fun h' tk t' hk => ?_
  have := hQ h' tk t' hk (frK F hk) (newsK N hk)
  rw [preSum_eq, List.take_of_length_le (by simp), e]; exact this
end

theorem words_p21_0 : True := by
  k_with "call builtin:sum" => ((with_reducible show wpAny _ _ (call (Value.builtin "sum") [Value.ref _]) _ _ _); (rename Fr _ _ _ _ => F'); (rename News _ _ _ _ => N'); refine sum_pick rfl F' N' (by first | exact .head _ | exact .tail _ (.head _)) (by assumption) ?_; clear F' N'; intro _ _ _ _ _ _)
  trivial
noncomputable def codeChk (o : Obj) : Bool := match o.data with
  | .fields vs => o.cls == .type "code" && vs.getD 11 .none == .ref 62 && vs[11]? == some (.ref 62) && (match vs.getD 18 .none with | .str _ _ => true | _ => false) && (match vs.getD 7 .none with | .int _ _ => true | _ => false) && (match vs.getD 9 .none with | .bool _ => true | _ => false) && (match vs.getD 10 .none with | .int _ _ => true | _ => false)
  | _ => false
theorem tab66 {w : World} {h : Heap} (X : (Mine.hd.heap_39 w.params).In h) (h62 : h.get? 62 = some (tabObj #[])) : h.IsCode 66 62 #[] ∧ h.TableAt 66 62 #[] := by
  have e : ((Mine.hd.heap_39 w.params).lookup 66).map codeChk = some true := by kernel_rfl
  obtain ⟨o, e1, e2⟩ := Option.map_eq_some_iff.mp e
  obtain ⟨oc, od, odt, osl⟩ := o
  cases odt with
  | fields vs =>
    simp only [codeChk, Bool.and_eq_true, beq_iff_eq] at e2
    obtain ⟨⟨⟨⟨⟨⟨c1, c2⟩, c3⟩, c4⟩, c5⟩, c6⟩, c7⟩ := e2
    obtain ⟨f, tf, c4⟩ : ∃ f tf, vs.getD 18 .none = .str f tf := by split at c4 <;> first | exact ⟨_, _, by assumption⟩ | cases c4
    obtain ⟨i, ti, c5⟩ : ∃ f tf, vs.getD 7 .none = .int f tf := by split at c5 <;> first | exact ⟨_, _, by assumption⟩ | cases c5
    obtain ⟨b, c6⟩ : ∃ f, vs.getD 9 .none = .bool f := by split at c6 <;> first | exact ⟨_, by assumption⟩ | cases c6
    obtain ⟨j, tj, c7⟩ : ∃ f tf, vs.getD 10 .none = .int f tf := by split at c7 <;> first | exact ⟨_, _, by assumption⟩ | cases c7
    exact ⟨⟨_, vs, f, tf, i, ti, b, j, tj, _, X _ _ e1, rfl, c2, c4, c5, c6, c7, h62, rfl, trivial, by decide⟩, ⟨⟨_, vs, X _ _ e1, c1, rfl, c3⟩, h62⟩⟩
  | _ => exact Bool.noConfusion e2
theorem extBut_hide {h : Heap} : Heap.ExtBut 62 h (hideAll h [62]) := fun b o n e => hideAll_get _ e (by simpa using n)
noncomputable abbrev heapB : Params → Frag := fun P => (62, tabObj #[]) :: Mine.hd.heap_39 P
theorem in_tail {w : World} {h : Heap} (X : (heapB w.params).In h) : (Mine.hd.heap_39 w.params).In (hideAll h [62]) := by
  intro b o e
  have n : b ≠ 62 := fun q => by
    have : (Mine.hd.heap_39 w.params).lookup 62 = none := by kernel_rfl
    rw [q, this] at e; cases e
  refine hideAll_get _ (X b o ?_) (by simpa using n)
  show ((62, tabObj #[]) :: Mine.hd.heap_39 w.params).lookup b = some o
  rw [List.lookup_cons, show (b == 62) = false by simpa using n]; exact e
theorem ok_base {w : World} {mg mb : Str → Option Value} {h : Heap} (X : (heapB w.params).In h) (T : Tp mg mb h) : Ok w mg mb (hideAll h [62]) :=
  ⟨in_tail X, ⟨T.g.extBut extBut_hide (by decide), T.b.extBut extBut_hide (by decide), T.nolimit.extBut extBut_hide (by decide), T.builtins, T.free⟩⟩
theorem get62 {w : World} {h : Heap} (X : (heapB w.params).In h) : h.get? 62 = some (tabObj #[]) := X 62 _ rfl
theorem oldK_of {h h' : Heap} (t : h.IsCode 66 62 #[] ∧ h.TableAt 66 62 #[]) (k : ∀ b o, (hideAll h [62]).get? b = some o → h'.get? b = some o) (T' : Tab h') : OldK h h' := by
  obtain ⟨ps, -, T2⟩ := T'
  have e0 := t.2.2
  refine ⟨fun b o e => ?_, fun b o e => ?_⟩
  · by_cases hb : b = 62
    · subst hb
      rw [e0] at e; cases e
      exact .inr (.inl ⟨t.2.isCodeTable, rfl, #[], ps, rfl, by rw [T2.2]; simp⟩)
    · exact .inl (k b o (hideAll_get _ e (by simpa using hb)))
  · by_cases hb : b = 62
    · subst hb; exact ⟨_, T2.2⟩
    · exact ⟨o, k b o (hideAll_get _ e (by simpa using hb))⟩
theorem seer_hide {h : Heap} (x : h.NoSeer) (h62 : h.get? 62 = some (tabObj #[])) : (hideAll h [62]).NoSeer where
  statics := let ⟨mc, a, b⟩ := x.statics; ⟨mc, a.extBut extBut_hide (by decide), b⟩
  mods := let ⟨mc, a, b⟩ := x.mods; ⟨mc, a.extBut extBut_hide (by decide), b⟩
  imp := let ⟨mc, a, b⟩ := x.imp; ⟨mc, a.extBut extBut_hide (by decide), b⟩
  main := let ⟨mg, bm, ob, a, b, c, d, e⟩ := x.main; ⟨mg, bm, ob, a.extBut extBut_hide (by decide), b, extBut_hide _ _ (by rintro rfl; rw [h62] at c; cases c; cases d) c, d, e⟩
section
variable {prog : Program} {w : World} {A : Around} {E : Value → Shared → Prop} {s : Shared} {mg mb : Str → Option Value} {g : Heap} {L : Addr} {m : Str → Option Value}
theorem nameB {env : Env} {x : Str} {pos : Pos} {v : Value} {Q : Value → Shared → Prop} (F : Fr g L s.heap m) (T : Tp mg mb g) (h1 : mg x = none) (h2 : mb x = some v) (h : Q v s)
    (hg : env.globals = mainGlobals := by rfl) (hb : env.builtins = builtinsNs := by rfl) (hk : env.scope.kind = .function := by rfl) (hx : env.kindOf x = some .globalImplicit := by rfl) (hd : (x == ("__debug__" : Str)) = false := by decide) :
    wpAny (model prog w) A (eval (.Name x pos) env) Q E s :=
  Calls.Name_function_global hk hx (Calls.loadGlobal_builtin (env := env) (by rw [hg]; exact T.g.keeps F.keep) h1 (by rw [hb]; exact T.b.keeps F.keep) h2 h) hd
end
theorem sum_free {mg mb : Str → Option Value} {h : Heap} (T : Tp mg mb h) : mg "sum" = none := T.free "sum" (by decide +kernel) (by decide +kernel) (by decide +kernel) (by decide +kernel) (by decide +kernel)
theorem sum_boot {mg mb : Str → Option Value} {h : Heap} (T : Tp mg mb h) : mb "sum" = some (.builtin "sum") := (T.builtins "sum" (by decide)).trans rfl
theorem words_p23_0 : True := by
  k_with "eval Name" => ((with_reducible show wpAny _ _ (eval (Expr.Name (Str.ofString "sum") _) _) _ _ _); refine nameB (by assumption) (by assumption) (sum_free (by assumption)) (sum_boot (by assumption)) ?_)
  trivial
section
variable {prog : Program} {w : World} {A : Around} {R : Result → Shared → Prop} {s : Shared} {env : Env}
theorem comp_turns {elt target iter : Expr} {scope : Scope} {pos : Pos} {it acc : Value} (I : Nat → Shared → Prop)
    (turn : ∀ n s, I n s → wpAny (model prog w) A (pyNext it) (fun r s₁ => match r with
      | none => R (.ok .next) s₁
      | some v => wpAny (model prog w) A (letOwnedTupleGo target it v) (fun _ s₁' => wpAny (model prog w) A (assign target env v) (fun _ s₂ =>
          wpAny (model prog w) A (eval elt env) (fun x s₄ =>
              wpAny (model prog w) A (call (.builtin "list.append") [acc, x]) (fun _ s₅ => ∃ m, m < n ∧ I m s₅) (notedBy (model prog w) A env fun e s' => R (.error e) s') s₄) (notedBy (model prog w) A env fun e s' => R (.error e) s') s₂)
          (notedBy (model prog w) A env fun e s' => R (.error e) s') s₁') (notedBy (model prog w) A env fun e s' => R (.error e) s') s₁) (notedBy (model prog w) A env fun e s' => R (.error e) s') s)
    (n : Nat) (h : I n s) : codeAny (model prog w) A (.compLoop (.ListComp elt [⟨target, iter, [], 0⟩] scope pos) 0 it acc env) R s := by
  refine codeAny_loop rfl I (fun n s hI => ?_) n h
  show wpAny _ A ((compTurn (.ListComp elt [⟨target, iter, [], 0⟩] scope pos) 0 it acc env).onRaise (fun x => do noteFrame x env; theTreesLotGoes x)) _ _ s
  refine wpAny_noted ?_
  rw [compTurn_list]
  refine wpAny_bind (wpAny_standAt (wpAny_bind (wpAny_mono (turn n s hI) (fun r s₁ h₁ => ?_) fun _ _ h' => h')))
  cases r with
  | none => exact wpAny_pure h₁
  | some v =>
    refine wpAny_bind (wpAny_mono h₁ (fun _ s₁' h₁' => ?_) fun _ _ h' => h')
    refine wpAny_bind (wpAny_mono h₁' (fun _ s₂ h₂ => wpAny_bind (wpAny_mono (wpAny_tests_nil (Q := fun ok s₃ => ok = true ∧ s₃ = s₂) ⟨rfl, rfl⟩) (fun ok s₃ h₃ => ?_) fun _ _ h' => h')) fun _ _ h' => h')
    obtain ⟨rfl, rfl⟩ := h₃
    exact wpAny_bind (wpAny_bind (wpAny_mono h₂ (fun x s₄ h₄ => wpAny_bind (wpAny_mono h₄ (fun _ s₅ h₅ => wpAny_pure (wpAny_pure ⟨rfl, h₅⟩)) fun _ _ h' => h')) fun _ _ h' => h'))
noncomputable def Got (Rs : Nat → Value → Option (Addr × Obj) → Prop) (h₀ : Heap) (no : List Addr) (h : Heap) (i : Nat) (y : Value) : Prop :=
  ∃ ob, Rs i y ob ∧ ∀ p, ob = some p → h₀.get? p.1 = none ∧ p.1 ∉ no ∧ h.get? p.1 = some p.2
theorem Got.keep {Rs : Nat → Value → Option (Addr × Obj) → Prop} {h₀ h h' : Heap} {no : List Addr} {i : Nat} {y : Value} (x : Got Rs h₀ no h i y) (k : ∀ b o, b ∉ no → h.get? b = some o → h'.get? b = some o) : Got Rs h₀ no h' i y :=
  let ⟨ob, a, b⟩ := x; ⟨ob, a, fun p e => ⟨(b p e).1, (b p e).2.1, k _ _ (b p e).2.1 (b p e).2.2⟩⟩
theorem comp_loop {elt target iter : Expr} {scope : Scope} {pos : Pos} {I D : Addr} {fp : List Addr} {n : Nat} {P : Nat → Value → Prop} {St : Nat → Heap → Prop} {m : Str → Option Value} (W : Walks prog w A I fp [I] n P St)
    (Bd : Nat → (Str → Option Value) → Prop) (Rs : Nat → Value → Option (Addr × Obj) → Prop)
    (hlive : ∀ i h, St i h → ∃ o, h.get? I = some o) (hDC : D ≠ env.locals) (hDf : D ∉ fp) (hCf : env.locals ∉ fp) (hst : St 0 s.heap) (hacc : s.heap.PlainList D #[]) (hn : s.heap.Ns env.locals m)
    (has : ∀ i v s₂ m₂, i < n → P i v → s₂.heap.Ns env.locals m₂ → St (i + 1) s₂.heap → (∀ b o, b ≠ env.locals → b ≠ I → b ≠ D → s.heap.get? b = some o → s₂.heap.get? b = some o) →
      wpAny (model prog w) A (letOwnedTupleGo target (.ref I) v) (fun _ s₃ => wpAny (model prog w) A (assign target env v) (fun _ s₄ => ∃ h' tk, s₄ = { s₂ with heap := h', toks := tk } ∧ (∀ b o, b ≠ env.locals → s₂.heap.get? b = some o → h'.get? b = some o) ∧ ∃ m₄, h'.Ns env.locals m₄ ∧ Bd i m₄) (fun _ _ => False) s₃) (fun _ _ => False) s₂)
    (helt : ∀ i s₂ m₂, i < n → s₂.heap.Ns env.locals m₂ → Bd i m₂ → (∀ b o, b ≠ env.locals → b ≠ I → b ≠ D → s.heap.get? b = some o → s₂.heap.get? b = some o) →
      s₂.gens = s.gens → s₂.os = s.os → wpAny (model prog w) A (eval elt env) (fun y s₃ => (∃ ob, Rs i y ob ∧ ∀ p, ob = some p → s₂.heap.get? p.1 = none ∧ s₃.heap.get? p.1 = some p.2) ∧ Keeps s₂ s₃) (fun _ _ => False) s₂)
    (hR : ∀ h' tk m' ys, h'.Ns env.locals m' → h'.PlainList D ys → ys.size = n → (∀ i y, ys[i]? = some y → Got Rs s.heap [env.locals, I, D] h' i y) →
      (∀ b o, b ≠ env.locals → b ≠ I → b ≠ D → s.heap.get? b = some o → h'.get? b = some o) → R (.ok .next) { s with heap := h', toks := tk })
    (hsz : n ≤ sizeLine) : codeAny (model prog w) A (.compLoop (.ListComp elt [⟨target, iter, [], 0⟩] scope pos) 0 (.ref I) (.ref D) env) R s := by
  refine comp_turns (fun k s' => ∃ h' tk m' ys, s' = { s with heap := h', toks := tk } ∧ St ys.size h' ∧ h'.PlainList D ys ∧ h'.Ns env.locals m' ∧ (∀ i y, ys[i]? = some y → Got Rs s.heap [env.locals, I, D] h' i y) ∧ ys.size ≤ n ∧ k = n + 1 - ys.size ∧
      (∀ b o, b ≠ env.locals → b ≠ I → b ≠ D → s.heap.get? b = some o → h'.get? b = some o)) ?_ (n + 1)
    ⟨s.heap, s.toks, m, #[], rfl, hst, hacc, hn, by simp, Nat.zero_le _, rfl, fun _ _ _ _ _ e => e⟩
  rintro k s' ⟨H, tk, m', ys, rfl, hst', hacc', hn', hG, hi, rfl, hk⟩
  have hIf : I ∈ fp := W.sub _ (.head _)
  have hCI : env.locals ≠ I := fun e => hCf (e ▸ hIf)
  have hDI : D ≠ I := fun e => hDf (e ▸ hIf)
  by_cases hlt : ys.size < n
  · refine W.item ys.size _ _ _ hlt hst' fun v h₁ tk₁ hPv hst₁ hk₁ => ?_
    have hk₁ : ∀ b o, b ≠ I → H.get? b = some o → h₁.get? b = some o := fun b o n e => hk₁ b o (by simpa using n) e
    refine wpAny_mono (has ys.size v { s with heap := h₁, toks := tk₁ } m' hlt hPv (hn'.at' fun o e => hk₁ _ o hCI e) hst₁ fun b o h1 h2 h3 e => hk₁ b o h2 (hk b o h1 h2 h3 e)) (fun _ s₃ h₃ => ?_) fun _ _ z => z.elim
    refine wpAny_mono h₃ (fun _ s₄ h₄ => ?_) fun _ _ z => z.elim
    obtain ⟨h₂, tk₂, rfl, hk₂, m₄, hn₂, hb₂⟩ := h₄
    have up₂ : ∀ b o, b ≠ env.locals → b ≠ I → H.get? b = some o → h₂.get? b = some o := fun b o h1 h2 e => hk₂ b o h1 (hk₁ b o h2 e)
    refine wpAny_mono (helt ys.size { s with heap := h₂, toks := tk₂ } m₄ hlt hn₂ hb₂ (fun b o h1 h2 h3 e => up₂ b o h1 h2 (hk b o h1 h2 h3 e)) rfl rfl) (fun y s₅ h₅ => ?_) fun _ _ z => z.elim
    obtain ⟨⟨ob, hRs, hob⟩, h₃', tk₃, rfl, hk₃⟩ := h₅
    have hacc₃ : h₃'.PlainList D ys := hacc'.at fun o e => hk₃ _ o (up₂ D o hDC hDI e)
    refine wpAny_list_append_plain (hsz := by omega) hacc₃ fun h₅ hl₅ hs₅ => ?_
    have kAll : ∀ b o, b ≠ env.locals → b ≠ I → b ≠ D → H.get? b = some o → h₅.get? b = some o := fun b o h1 h2 h3 e => hs₅.extBut b o h3 (hk₃ b o (up₂ b o h1 h2 e))
    have hst₂ : St (ys.size + 1) h₂ := W.frame _ _ _ hst₁ fun b hb o e => hk₂ b o (fun h => hCf (h ▸ hb)) e
    refine ⟨n + 1 - (ys.size + 1), by omega, h₅, tk₃, m₄, ys.push y, rfl, ?_, hl₅, ?_, ?_, by simp; omega, by simp, fun b o h1 h2 h3 e => kAll b o h1 h2 h3 (hk b o h1 h2 h3 e)⟩
    · rw [Array.size_push]
      exact W.frame _ _ _ hst₂ fun b hb o e => hs₅.extBut b o (fun h => hDf (h ▸ hb)) (hk₃ b o e)
    · exact (hn₂.keeps hk₃).sameBut hs₅ (Ne.symm hDC)
    · intro i z hz
      rcases Nat.lt_trichotomy i ys.size with h | h | h
      · refine (hG i z (by rwa [Array.getElem?_push_lt h, ← Array.getElem?_eq_getElem h] at hz)).keep fun b o nb e => ?_
        simp only [List.mem_cons, List.not_mem_nil, or_false, not_or] at nb
        exact kAll b o nb.1 nb.2.1 nb.2.2 e
      · subst h
        rw [Array.getElem?_push_size] at hz
        cases hz
        refine ⟨ob, hRs, fun p e => ?_⟩
        obtain ⟨p1, p2⟩ := hob p e
        have n1 : p.1 ≠ env.locals := by obtain ⟨_, _, _, ho, _⟩ := hn₂; exact ne_of_none_some' p1 ho
        have n2 : p.1 ≠ I := by obtain ⟨o, ho⟩ := hlive _ _ hst₂; exact ne_of_none_some' p1 ho
        have n3 : p.1 ≠ D := by obtain ⟨_, ho⟩ := hacc'; exact ne_of_none_some' p1 (up₂ _ _ hDC hDI ho)
        refine ⟨?_, by simp [n1, n2, n3], hs₅.extBut _ _ n3 p2⟩
        cases q : s.heap.get? p.1 with
        | none => rfl
        | some o =>
          have := up₂ _ _ n1 n2 (hk _ _ n1 n2 n3 q)
          dsimp only at p1
          rw [p1] at this; cases this
      · rw [Array.getElem?_eq_none (by simp; omega)] at hz; cases hz
  · have hin : ys.size = n := by omega
    refine W.done _ _ _ (hin ▸ hst') fun h₁ tk₁ hk₁ => ?_
    have hk₁ : ∀ b o, b ≠ I → H.get? b = some o → h₁.get? b = some o := fun b o n e => hk₁ b o (by simpa using n) e
    exact hR h₁ tk₁ m' ys (hn'.at' fun o e => hk₁ _ o hCI e) (hacc'.at fun o e => hk₁ _ o hDI e) hin (fun i y e => (hG i y e).keep fun b o nb e => hk₁ b o (by simp at nb; exact nb.2.1) e) fun b o h1 h2 h3 e => hk₁ b o h2 (hk b o h1 h2 h3 e)
end
section
variable {prog : Program} {w : World} {A : Around} {E : Value → Shared → Prop} {s : Shared} {env : Env}
structure Turn (prog : Program) (w : World) (A : Around) (env : Env) (target elt : Expr) (scope : Scope) (cl : List (Str × Addr)) (s₂ : Shared) (I : Addr) (n : Nat) (P : Nat → Value → Prop) (St : Nat → Heap → Prop) (Bd : Nat → (Str → Option Value) → Prop) (Rs : Nat → Value → Option (Addr × Obj) → Prop) : Prop where
  has : ∀ C D i v s₃ m₃, s₂.heap.get? C = none → s₂.heap.get? D = none → i < n → P i v → s₃.heap.Ns C m₃ → St (i + 1) s₃.heap → (∀ b o, b ≠ I → s₂.heap.get? b = some o → s₃.heap.get? b = some o) →
      wpAny (model prog w) A (letOwnedTupleGo target (.ref I) v) (fun _ s₄ => wpAny (model prog w) A (assign target (compEnvC scope cl C env) v) (fun _ s₅ => ∃ h' tk, s₅ = { s₃ with heap := h', toks := tk } ∧ (∀ b o, b ≠ C → s₃.heap.get? b = some o → h'.get? b = some o) ∧ ∃ m₅, h'.Ns C m₅ ∧ Bd i m₅) (fun _ _ => False) s₄) (fun _ _ => False) s₃
  elt : ∀ C D i s₃ m₃, s₂.heap.get? C = none → s₂.heap.get? D = none → i < n → s₃.heap.Ns C m₃ → Bd i m₃ → (∀ b o, b ≠ I → s₂.heap.get? b = some o → s₃.heap.get? b = some o) → s₃.gens = s₂.gens → s₃.os = s₂.os → C < s₃.heap.objs.size → s₂.heap.objs.size ≤ C →
      wpAny (model prog w) A (eval elt (compEnvC scope cl C env)) (fun y s₄ => (∃ ob, Rs i y ob ∧ ∀ p, ob = some p → s₃.heap.get? p.1 = none ∧ s₄.heap.get? p.1 = some p.2) ∧ Keeps s₃ s₄) (fun _ _ => False) s₃
theorem list_comp {elt target iter : Expr} {scope : Scope} {cl : List (Str × Addr)} {pos p₂ : Pos} {use : Option (Value → Sem Unit)} {Q : Value → Shared → Prop} (Bd : Nat → (Str → Option Value) → Prop) (Rs : Nat → Value → Option (Addr × Obj) → Prop)
    (hclos : closureFor scope env = pure cl) (hcell : ∀ y ∈ scope.names, y.2 ≠ .cell) (hkind : scope.kind = .function)
    (hnames : ∀ y ∈ scope.names, y.2 = .local → scope.names.lookup y.1 = some .local)
    (h : wpAny (model prog w) A (eval iter env) (fun xv s₁ => wpAny (model prog w) A (pyIter xv) (fun it s₂ => ∃ I fp n P St, it = .ref I ∧ Walks prog w A I fp [I] n P St ∧ n ≤ sizeLine ∧ (∀ i h, St i h → ∃ o, h.get? I = some o) ∧ St 0 s₂.heap ∧ (∀ b ∈ fp, b < s₂.heap.objs.size) ∧
      Turn prog w A env target elt scope cl s₂ I n P St Bd Rs ∧
      (∀ D C h' tk m' ys, s₂.heap.get? D = none → s₂.heap.get? C = none → D ≠ C → h'.Ns C m' → h'.PlainList D ys → ys.size = n → (∀ i y, ys[i]? = some y → Got Rs s₂.heap [C, I, D] h' i y) →
        (∀ b o, b ≠ I → s₂.heap.get? b = some o → h'.get? b = some o) → compPost (model prog w) A E use Q (.ref D) C (.ok .next) { s₂ with heap := h', toks := tk })) E s₁) E s)
    (hs : ∀ x, foldedSetIterable iter env x = pure x := by intro _; rfl) :
    wpAny (model prog w) A (comprehension (.ListComp elt [⟨target, iter, [], 0⟩] scope pos) scope env p₂ (newList []) false (eval iter env) use) Q E s := by
  refine wpAny_comprehension_free (use := use) rfl hs hclos hkind hnames (wpAny_mono h (fun xv s₁ h₁ => wpAny_mono h₁ (fun it s₂ h₂ => ?_) fun _ _ e => e) fun _ _ e => e)
  obtain ⟨I, fp, n, P, St, rfl, W, hsz, hlive, hst, hfp, hq, hQ⟩ := h₂
  refine wpAny_newObj_type (wpAny_newFunctionEnv hcell (by intro y hy; simp at hy) (fun h₁ hns₁ hsb₁ => ?_) hkind)
  dsimp only at hns₁ hsb₁ ⊢
  generalize hH2 : s₂.heap.push { cls := .type "list", dict := none, data := .seq ([] : List Value).toArray } = H2 at hns₁ hsb₁ ⊢
  have hC : H2.objs.size = s₂.heap.objs.size + 1 := by rw [← hH2, Heap.size_push]
  have hDC : s₂.heap.objs.size ≠ H2.objs.size := by rw [hC]; exact Nat.ne_of_lt (Nat.lt_succ_self _)
  have hCle : s₂.heap.objs.size ≤ H2.objs.size := by rw [hC]; exact Nat.le_succ _
  have below : ∀ b, b < s₂.heap.objs.size → b ≠ H2.objs.size ∧ b ≠ s₂.heap.objs.size := fun b hb => ⟨by rw [hC]; exact Nat.ne_of_lt (Nat.lt_succ_of_lt hb), Nat.ne_of_lt hb⟩
  have hDf : s₂.heap.objs.size ∉ fp := fun hm => Nat.lt_irrefl _ (hfp _ hm)
  have hCf : H2.objs.size ∉ fp := fun hm => by have := hfp _ hm; rw [hC] at this; exact Nat.lt_irrefl _ (Nat.lt_of_succ_lt this)
  have old : ∀ b o, s₂.heap.get? b = some o → h₁.get? b = some o := fun b o e => hsb₁.extBut b o (below b (Heap.lt_size e)).1 (Heap.get?_push_of_some _ (hH2 ▸ Heap.get?_push_of_some _ e))
  have hacc : h₁.PlainList s₂.heap.objs.size #[] := ⟨_, hsb₁.extBut _ _ hDC (Heap.get?_push_of_some _ (hH2 ▸ Heap.get?_push_size _ rfl))⟩
  have hst₁ : St 0 h₁ := W.frame _ _ _ hst fun b _ o e => old b o e
  have fresh : ∀ a, s₂.heap.objs.size ≤ a → s₂.heap.get? a = none := fun a ha => by
    cases e : s₂.heap.get? a with
    | none => rfl
    | some o' => exact absurd (Heap.lt_size e) (Nat.not_lt.mpr ha)
  have hC0 := fresh _ hCle
  have hD0 := fresh _ (Nat.le_refl _)
  have loop : ∀ s₃ : Shared, s₃ = { s₂ with heap := h₁, toks := s₂.toks + ([] : List (Str × Value)).length } →
      codeAny (model prog w) A (.compLoop (.ListComp elt [⟨target, iter, [], 0⟩] scope pos) 0 (.ref I) (.ref s₂.heap.objs.size) (compEnvC scope cl H2.objs.size env))
        (compPost (model prog w) A E use Q (.ref s₂.heap.objs.size) H2.objs.size) s₃ := by
    rintro s₃ rfl
    refine comp_loop (env := compEnvC scope cl H2.objs.size env) W Bd Rs hlive hDC hDf hCf hst₁ hacc hns₁
      (fun i v s₃ m₃ hi hv hn hst hk => hq.has _ _ i v s₃ m₃ hC0 hD0 hi hv hn hst fun b o hb e => hk b o (below b (Heap.lt_size e)).1 hb (below b (Heap.lt_size e)).2 (old b o e))
      (fun i s₃ m₃ hi hn hb hk hg ho => hq.elt _ _ i s₃ m₃ hC0 hD0 hi hn hb (fun b o hb e => hk b o (below b (Heap.lt_size e)).1 hb (below b (Heap.lt_size e)).2 (old b o e)) hg ho hn.lt hCle) (fun h' tk m' ys hn hpl hlen hG hk => ?_) hsz
    refine hQ _ _ h' tk m' ys hD0 hC0 hDC hn hpl hlen (fun i y e => ?_) fun b o hb e => hk b o (below b (Heap.lt_size e)).1 hb (below b (Heap.lt_size e)).2 (old b o e)
    obtain ⟨ob, h1, h2⟩ := hG i y e
    refine ⟨ob, h1, fun p e => ?_⟩
    obtain ⟨a, b, c⟩ := h2 p e
    refine ⟨?_, b, c⟩
    cases q : s₂.heap.get? p.1 with
    | none => rfl
    | some o => rw [old _ _ q] at a; cases a
  exact codeAny_compStart_list (loop _ rfl) (W.self 0 _ _ _ hst₁ (loop _ rfl))
end
noncomputable def Stop (P : Prop) : Prop := P
theorem stop_ {P : Prop} (h : Stop P) : P := h
theorem go_ {P : Prop} (h : P) : Stop P := h
theorem range_small (n : Nat) (h : n ≤ 1000) : Builtin.Range.small 0 n 1 = true := small_one (by omega) (by omega) (by omega) (by omega)
section
variable {prog : Program} {w : World} {A : Around} {E : Value → Shared → Prop} {s : Shared} {env : Env}
theorem has_name {x : Str} {px : Pos} {cenv : Env} {C : Addr} {i : Nat} {I : Addr} {v : Value} {m₃ : Str → Option Value} {P : Nat → Value → Prop} (hl : cenv.locals = C) (hx : cenv.kindOf x = some .local) (hp : (cenv.scope.kind == .class || (cenv.scope.kind == .module && cenv.locals != cenv.globals)) = false) (hP : P i v) (hn : s.heap.Ns C m₃) :
    wpAny (model prog w) A (letOwnedTupleGo (.Name x px) (.ref I) v) (fun _ s₄ => wpAny (model prog w) A (assign (.Name x px) cenv v) (fun _ s₅ => ∃ h' tk, s₅ = { s with heap := h', toks := tk } ∧ (∀ b o, b ≠ C → s.heap.get? b = some o → h'.get? b = some o) ∧ ∃ m₅, h'.Ns C m₅ ∧ ∃ v, P i v ∧ m₅ x = some v) (fun _ _ => False) s₄) (fun _ _ => False) s := by
  subst hl
  refine wpAny_of_eq (a := ()) rfl ?_
  refine wpAny_assign_Name (wpAny_storeName_local hx hn (fun h₂ hn₂ hs₂ => ?_) hp)
  exact ⟨h₂, s.toks + 1, rfl, fun b o hb e => hs₂.extBut b o hb e, _, hn₂, v, hP, by simp⟩
theorem range_comp0 {elt iter : Expr} {x : Str} {px : Pos} {scope : Scope} {cl : List (Str × Addr)} {pos p₂ : Pos} {use : Option (Value → Sem Unit)} {Q : Value → Shared → Prop} (n : Nat) (Rs : Nat → Value → Option (Addr × Obj) → Prop) (hn : n ≤ 1000) (hh : A.handled = none)
    (hclos : closureFor scope env = pure cl) (hcell : ∀ y ∈ scope.names, y.2 ≠ .cell) (hkind : scope.kind = .function)
    (hnames : ∀ y ∈ scope.names, y.2 = .local → scope.names.lookup y.1 = some .local) (hx : scope.names.lookup x = some .local)
    (h : wpAny (model prog w) A (eval iter env) (fun xv s₁ => ∃ r t u v, xv = .ref r ∧ IsRange s₁.heap r 0 n 1 t u v ∧
      (∀ C i s₃ m₃ tk, i < n → s₃.heap.Ns C m₃ → m₃ x = some (.int i tk) → (∀ b o, s₁.heap.get? b = some o → s₃.heap.get? b = some o) → s₃.gens = s₁.gens → s₃.os = s₁.os → s₁.heap.objs.size ≤ C →
        wpAny (model prog w) A (eval elt (compEnvC scope cl C env)) (fun y s₄ => (∃ ob, Rs i y ob ∧ ∀ p, ob = some p → s₃.heap.get? p.1 = none ∧ s₄.heap.get? p.1 = some p.2) ∧ Keeps s₃ s₄) (fun _ _ => False) s₃) ∧
      Stop (∀ D C h' tk m' ys, s₁.heap.get? D = none → s₁.heap.get? C = none → D ≠ C → h'.Ns C m' → h'.PlainList D ys → ys.size = n → (∀ i y, ys[i]? = some y → Got Rs s₁.heap [C, D] h' i y) →
        (∀ b o, s₁.heap.get? b = some o → h'.get? b = some o) → compPost (model prog w) A E use Q (.ref D) C (.ok .next) { s₁ with heap := h', toks := tk })) E s)
    (hs : ∀ x, foldedSetIterable iter env x = pure x := by intro _; rfl) :
    wpAny (model prog w) A (comprehension (.ListComp elt [⟨.Name x px, iter, [], 0⟩] scope pos) scope env p₂ (newList []) false (eval iter env) use) Q E s := by
  refine list_comp (fun i m => ∃ v, (∃ t, v = .int (0 + i * 1) t) ∧ m x = some v) Rs hclos hcell hkind hnames (wpAny_mono h (fun xv s₁ h₁ => ?_) fun _ _ e => e) hs
  obtain ⟨r, t, u, v, rfl, hr, helt, hQ⟩ := h₁
  have e : Builtin.Range.rangeSize 0 n 1 = n := by rw [rangeSize_one]; split <;> omega
  refine wpAny_pyIter_range hr (range_small n hn) ?_
  rw [e]
  have up : ∀ o b o', s₁.heap.get? b = some o' → (s₁.heap.push o).get? b = some o' := fun o b o' e => Heap.get?_push_of_some o e
  have ne : ∀ b o, s₁.heap.get? b = some o → b ≠ s₁.heap.objs.size := fun b o e => Nat.ne_of_lt (Heap.lt_size e)
  refine ⟨s₁.heap.objs.size, _, n, _, _, rfl, Walks.range hh s₁.heap.objs.size 0 1 n, by rw [sizeLine_eq]; omega, fun i h st => ⟨_, st⟩, ?_, ?_, ⟨?_, ?_⟩, ?_⟩
  · show Heap.get? _ _ = _
    rw [Heap.get?_push_size _ rfl]; simp
  · intro b hb
    rw [List.mem_singleton.mp hb]
    show _ < (s₁.heap.push _).objs.size
    rw [Heap.size_push]; exact Nat.lt_succ_self _
  · intro C D i v s₃ m₃ hC hD hi hv hn₃ hst hk
    exact has_name (P := fun i v => ∃ t, v = .int (0 + i * 1) t) rfl (lookup_relabel_local hx) (by simp [compEnvC, relabel, hkind]) hv hn₃
  · rintro C D i s₃ m₃ hC hD hi hn₃ ⟨v, ⟨tv, rfl⟩, hm⟩ hk hg ho hlt hle
    refine helt C i s₃ m₃ tv hi hn₃ (by rw [hm]; simp) (fun b o e => hk b o (ne b o e) (up _ b o e)) hg ho ?_
    exact Nat.le_trans (by show _ ≤ (s₁.heap.push _).objs.size; rw [Heap.size_push]; exact Nat.le_succ _) hle
  · intro D C h' tk m' ys hD hC hDC hns hpl hsz hG hk
    have dn : ∀ o b, (s₁.heap.push o).get? b = none → s₁.heap.get? b = none := fun o b hb => by
      cases q : s₁.heap.get? b with
      | none => rfl
      | some o' => rw [up _ _ _ q] at hb; cases hb
    refine hQ D C h' tk m' ys (dn _ _ hD) (dn _ _ hC) hDC hns hpl hsz (fun i y e => ?_) fun b o e => hk b o (ne b o e) (up _ b o e)
    obtain ⟨ob, h1, h2⟩ := hG i y e
    refine ⟨ob, h1, fun p e => ?_⟩
    obtain ⟨a, b, c⟩ := h2 p e
    exact ⟨dn _ _ a, by simp at b ⊢; exact ⟨b.1, b.2.2⟩, c⟩
theorem list_comp0 {elt target iter : Expr} {scope : Scope} {cl : List (Str × Addr)} {pos p₂ : Pos} {use : Option (Value → Sem Unit)} {Q : Value → Shared → Prop} (Bd : Nat → (Str → Option Value) → Prop) (Rs : Nat → Value → Option (Addr × Obj) → Prop) (hh : A.handled = none)
    (hclos : closureFor scope env = pure cl) (hcell : ∀ y ∈ scope.names, y.2 ≠ .cell) (hkind : scope.kind = .function)
    (hnames : ∀ y ∈ scope.names, y.2 = .local → scope.names.lookup y.1 = some .local)
    (h : wpAny (model prog w) A (eval iter env) (fun xv s₁ => Stop (∃ l items, xv = .ref l ∧ s₁.heap.IsList l items ∧ items.size ≤ 1000 ∧
      Stop (∀ C i v s₃ m₃ I j, items[i]? = some v → s₃.heap.Ns C m₃ → s₃.heap.IsListIter I l j → (∀ b o, s₁.heap.get? b = some o → s₃.heap.get? b = some o) →
        wpAny (model prog w) A (letOwnedTupleGo target (.ref I) v) (fun _ s₄ => wpAny (model prog w) A (assign target (compEnvC scope cl C env) v) (fun _ s₅ => ∃ h' tk, s₅ = { s₃ with heap := h', toks := tk } ∧ (∀ b o, b ≠ C → s₃.heap.get? b = some o → h'.get? b = some o) ∧ ∃ m₅, h'.Ns C m₅ ∧ Bd i m₅) (fun _ _ => False) s₄) (fun _ _ => False) s₃) ∧
      Stop (∀ C i s₃ m₃, i < items.size → s₃.heap.Ns C m₃ → Bd i m₃ → (∀ b o, s₁.heap.get? b = some o → s₃.heap.get? b = some o) → s₃.gens = s₁.gens → s₃.os = s₁.os → s₁.heap.objs.size ≤ C →
        wpAny (model prog w) A (eval elt (compEnvC scope cl C env)) (fun y s₄ => (∃ ob, Rs i y ob ∧ ∀ p, ob = some p → s₃.heap.get? p.1 = none ∧ s₄.heap.get? p.1 = some p.2) ∧ Keeps s₃ s₄) (fun _ _ => False) s₃) ∧
      Stop (∀ D C h' tk m' ys, s₁.heap.get? D = none → s₁.heap.get? C = none → D ≠ C → h'.Ns C m' → h'.PlainList D ys → ys.size = items.size → (∀ i y, ys[i]? = some y → Got Rs s₁.heap [C, D] h' i y) →
        (∀ b o, s₁.heap.get? b = some o → h'.get? b = some o) → compPost (model prog w) A E use Q (.ref D) C (.ok .next) { s₁ with heap := h', toks := tk }))) E s)
    (hs : ∀ x, foldedSetIterable iter env x = pure x := by intro _; rfl) :
    wpAny (model prog w) A (comprehension (.ListComp elt [⟨target, iter, [], 0⟩] scope pos) scope env p₂ (newList []) false (eval iter env) use) Q E s := by
  refine list_comp Bd Rs hclos hcell hkind hnames (wpAny_mono h (fun xv s₁ h₁ => ?_) fun _ _ e => e) hs
  obtain ⟨l, items, rfl, hl, hsz, hhas, helt, hQ⟩ := h₁
  refine wpAny_pyIter_list hl ?_
  have hlt : l < s₁.heap.objs.size := by obtain ⟨_, e, _⟩ := hl; exact Heap.lt_size e
  have up : ∀ o b o', s₁.heap.get? b = some o' → (s₁.heap.push o).get? b = some o' := fun o b o' e => Heap.get?_push_of_some o e
  have ne : ∀ b o, s₁.heap.get? b = some o → b ≠ s₁.heap.objs.size := fun b o e => Nat.ne_of_lt (Heap.lt_size e)
  refine ⟨s₁.heap.objs.size, _, items.size, _, _, rfl, Walks.list hh s₁.heap.objs.size l (Nat.ne_of_lt hlt) items, by rw [sizeLine_eq]; omega, fun i h st => by obtain ⟨o, e, _⟩ := st.1; exact ⟨o, e⟩, ⟨⟨_, Heap.get?_push_size _ rfl, rfl, rfl⟩, hl.push _⟩, ?_, ⟨?_, ?_⟩, ?_⟩
  · intro b hb
    show b < (s₁.heap.push _).objs.size
    rw [Heap.size_push]
    rcases List.mem_cons.mp hb with rfl | hb
    · exact Nat.lt_succ_self _
    · rw [List.mem_singleton.mp hb]; exact Nat.lt_succ_of_lt hlt
  · intro C D i v s₃ m₃ hC hD hi hv hn₃ hst hk
    exact hhas C i v s₃ m₃ _ _ hv hn₃ hst.1 (fun b o e => hk b o (ne b o e) (up _ b o e))
  · intro C D i s₃ m₃ hC hD hi hn₃ hb hk hg ho hlt hle
    exact helt C i s₃ m₃ hi hn₃ hb (fun b o e => hk b o (ne b o e) (up _ b o e)) hg ho (Nat.le_trans (by show _ ≤ (s₁.heap.push _).objs.size; rw [Heap.size_push]; exact Nat.le_succ _) hle)
  · intro D C h' tk m' ys hD hC hDC hns hpl hsz hG hk
    have dn : ∀ o b, (s₁.heap.push o).get? b = none → s₁.heap.get? b = none := fun o b hb => by
      cases q : s₁.heap.get? b with
      | none => rfl
      | some o' => rw [up _ _ _ q] at hb; cases hb
    refine hQ D C h' tk m' ys (dn _ _ hD) (dn _ _ hC) hDC hns hpl hsz (fun i y e => ?_) fun b o e => hk b o (ne b o e) (up _ b o e)
    obtain ⟨ob, h1, h2⟩ := hG i y e
    refine ⟨ob, h1, fun p e => ?_⟩
    obtain ⟨a, b, c⟩ := h2 p e
    exact ⟨dn _ _ a, by simp at b ⊢; exact ⟨b.1, b.2.2⟩, c⟩
theorem fin_eval {Rs : Nat → Value → Option (Addr × Obj) → Prop} {Q : Value → Shared → Prop} {s₁ : Shared} {n : Nat}
    (h : ∀ D h' tk ys, s₁.heap.get? D = none → h'.PlainList D ys → ys.size = n → (∀ i y, ys[i]? = some y → Got Rs s₁.heap [D] h' i y) → (∀ b o, s₁.heap.get? b = some o → h'.get? b = some o) → Q (.ref D) { s₁ with heap := h', toks := tk }) :
    ∀ D C h' tk m' ys, s₁.heap.get? D = none → s₁.heap.get? C = none → D ≠ C → h'.Ns C m' → h'.PlainList D ys → ys.size = n → (∀ i y, ys[i]? = some y → Got Rs s₁.heap [C, D] h' i y) →
        (∀ b o, s₁.heap.get? b = some o → h'.get? b = some o) → compPost (model prog w) A E none Q (.ref D) C (.ok .next) { s₁ with heap := h', toks := tk } := by
  intro D C h' tk m' ys hD hC hDC hns hpl hsz hG hk
  refine ⟨m', hns, fun h'' hs'' => h D h'' tk ys hD (hpl.at fun o e => hs''.extBut _ o hDC e) hsz (fun i y e => ?_) fun b o e => hs''.extBut b o (by rintro rfl; rw [hC] at e; cases e) (hk b o e)⟩
  obtain ⟨ob, h1, h2⟩ := hG i y e
  refine ⟨ob, h1, fun p e => ?_⟩
  obtain ⟨a, b, c⟩ := h2 p e
  simp only [List.mem_cons, List.not_mem_nil, or_false, not_or] at b ⊢
  exact ⟨a, b.2, hs''.extBut _ _ b.1 c⟩
theorem fin_asg {Rs : Nat → Value → Option (Addr × Obj) → Prop} {Q : Shared → Prop} {s₁ : Shared} {n : Nat} {y : Str} {py : Pos} {m : Str → Option Value} (hy : env.kindOf y = some .local) (hp : (env.scope.kind == .class || (env.scope.kind == .module && env.locals != env.globals)) = false) (hn : s₁.heap.Ns env.locals m)
    (h : ∀ D h' tk ys, s₁.heap.get? D = none → h'.PlainList D ys → ys.size = n → (∀ i y, ys[i]? = some y → Got Rs s₁.heap [D] h' i y) → h'.Ns env.locals (fun z => if z = y then some (.ref D) else m z) → (∀ b o, b ≠ env.locals → s₁.heap.get? b = some o → h'.get? b = some o) → Q { s₁ with heap := h', toks := tk }) :
    ∀ D C h' tk m' ys, s₁.heap.get? D = none → s₁.heap.get? C = none → D ≠ C → h'.Ns C m' → h'.PlainList D ys → ys.size = n → (∀ i y, ys[i]? = some y → Got Rs s₁.heap [C, D] h' i y) →
        (∀ b o, s₁.heap.get? b = some o → h'.get? b = some o) → compPost (model prog w) A E (some (assign (.Name y py) env)) (fun _ s' => Q s') (.ref D) C (.ok .next) { s₁ with heap := h', toks := tk } := by
  intro D C h' tk m' ys hD hC hDC hns hpl hsz hG hk
  have hLC : env.locals ≠ C := by rintro rfl; obtain ⟨o, _, _, ho, _⟩ := hn; rw [hC] at ho; cases ho
  have hLD : env.locals ≠ D := by rintro rfl; obtain ⟨o, _, _, ho, _⟩ := hn; rw [hD] at ho; cases ho
  show wpAny _ A (assign (.Name y py) env (.ref D)) _ _ _
  refine wpAny_assign_Name (wpAny_storeName_local hy (hn.at' fun o e => hk _ o e) (fun h₂ hn₂ hs₂ => ?_) hp)
  refine ⟨m', hns.sameBut hs₂ (Ne.symm hLC), fun h₃ hs₃ => ?_⟩
  refine h D h₃ _ ys hD (hpl.at fun o e => hs₃.extBut _ o hDC (hs₂.extBut _ o (Ne.symm hLD) e)) hsz (fun i y e => ?_) (hn₂.sameBut hs₃ hLC) fun b o hb e => hs₃.extBut b o (by rintro rfl; rw [hC] at e; cases e) (hs₂.extBut b o hb (hk b o e))
  obtain ⟨ob, h1, h2⟩ := hG i y e
  refine ⟨ob, h1, fun p e => ?_⟩
  obtain ⟨a, b, c⟩ := h2 p e
  simp only [List.mem_cons, List.not_mem_nil, or_false, not_or] at b ⊢
  have : p.1 ≠ env.locals := by obtain ⟨o, _, _, ho, _⟩ := hn; exact ne_of_none_some' a ho
  exact ⟨a, b.2, hs₃.extBut _ _ b.1 (hs₂.extBut _ _ this c)⟩
theorem eval_comp {elt : Expr} {scope : Scope} {pos : Pos} {target iter : Expr} {Q : Value → Shared → Prop} (h : ∀ p₂, wpAny (model prog w) A (comprehension (.ListComp elt [⟨target, iter, [], 0⟩] scope pos) scope env p₂ (newList []) false (eval iter env) none) Q E s) :
    wpAny (model prog w) A (eval (.ListComp elt [⟨target, iter, [], 0⟩] scope pos) env) Q E s := by
  rw [eval_ListComp]; exact h _
theorem asg_comp {elt target iter : Expr} {y : Str} {py : Pos} {scope : Scope} {pos spos : Pos} {Q : Flow → Shared → Prop} (hsw : swapsWith (.ListComp elt [⟨target, iter, [], 0⟩] scope pos) (some (.Name y py)) spos.line env = pure true)
    (h : ∀ p₂, wpAny (model prog w) A (comprehension (.ListComp elt [⟨target, iter, [], 0⟩] scope pos) scope env p₂ (newList []) false (eval iter env) (some (assign (.Name y py) env))) (fun _ s' => Q .next s') E s) :
    wpAny (model prog w) A (exec (.Assign [.Name y py] (.ListComp elt [⟨target, iter, [], 0⟩] scope pos) spos) env) Q E s := by
  rw [exec_Assign_Name_used _ _ _ _ hsw]
  refine wpAny_bind (wpAny_standAt (wpAny_bind ?_))
  show wpAny _ A (do let _ ← comprehension (.ListComp elt [⟨target, iter, [], 0⟩] scope pos) scope env _ (newList []) false (eval iter env) (some (assign (.Name y py) env))) _ _ s
  exact wpAny_bind (wpAny_mono (h _) (fun _ s' hq => wpAny_pure (wpAny_pure hq)) fun _ _ e => e)
end
section
variable {prog : Program} {w : World} {A : Around} {E : Value → Shared → Prop} {s : Shared} {env : Env}
theorem ldLoc {x : Str} {pos : Pos} {m : Str → Option Value} {L : Addr} {v : Value} {Q : Value → Shared → Prop} (hn : s.heap.Ns L m) (hv : m x = some v) (h : Q v s) (hL : env.locals = L := by rfl) (hk : env.scope.kind = .function := by rfl) (hl : env.kindOf x = some .local := by rfl) (hd : (x == ("__debug__" : Str)) = false := by decide) :
    wpAny (model prog w) A (eval (.Name x pos) env) Q E s := wpAny_Name (wpAny_loadName_local hk hl (by rw [hL]; exact hn) hv h) hd
theorem ldCell {x : Str} {pos : Pos} {c : Addr} {o : Obj} {v : Value} {Q : Value → Shared → Prop} (ho : s.heap.get? c = some o) (hv : o.data = .cell (some v)) (h : Q v s) (hc : env.cells.lookup x = some c := by rfl) (hk : env.scope.kind = .function := by rfl) (hl : env.kindOf x = some .cell := by rfl) (hd : (x == ("__debug__" : Str)) = false := by decide) :
    wpAny (model prog w) A (eval (.Name x pos) env) Q E s := wpAny_Name (wpAny_loadName_cell hk hl hc ⟨o, ho, hv⟩ h) hd
theorem item_list {value slice : Expr} {l : Addr} {items : Array Value} {k : Int} {u : Tok} {x : Value} {Q : Value → Shared → Prop} (hl : s.heap.IsList l items) (h0 : 0 ≤ k) (hfit : k < 2 ^ 63) (hx : items[k.toNat]? = some x) (h : Q x s)
    (hs : subscripted slice false (.ref l) (.int k u) = operate [.ref l, .int k u] (getItem (.ref l) (.int k u)) := by with_unfolding_all rfl) (hg : ∀ r, letTemporaryGo value (.ref l) r = pure () := by intro _; with_unfolding_all rfl) :
    wpAny (model prog w) A (subscriptTail value slice (.ref l) (.int k u)) Q E s :=
  subscriptTail_builtin hl.typeIs slot_list_getitem.lookup (wpAny_getItem_list hl h0 hfit hx h) hs hg
theorem slice_list {ops : List Value} {value slice : Expr} {l sl : Addr} {items : Array Value} {vl vu vs : Value} {lo hi st : Option Int} {Q : Value → Shared → Prop} (hl : s.heap.IsList l items) (hS : s.heap.IsSliceOf sl vl vu vs) (pl : IsPart vl lo) (pu : IsPart vu hi) (ps : IsPart vs st) (h0 : st ≠ some 0) (hz : items.size ≤ 1000)
    (h : Q (.ref s.heap.objs.size) { s with heap := s.heap.push { cls := .type "list", data := .seq (slicePick items lo hi st) } })
    (hs : subscripted slice false (.ref l) (.ref sl) = operate ops (getItem (.ref l) (.ref sl)) := by with_unfolding_all rfl) (hg : ∀ r, letTemporaryGo value (.ref l) r = pure () := by intro _; with_unfolding_all rfl) :
    wpAny (model prog w) A (subscriptTail value slice (.ref l) (.ref sl)) Q E s :=
  subscriptTail_ops hl.typeIs slot_list_getitem.lookup (wpAny_getItem_list_slice hl hS pl pu ps h0 h (by rw [sizeLine_eq]; omega)) hs hg
theorem sliceE {lower upper step : Option Expr} {p : Pos} {Q : Value → Shared → Prop}
    (h : wpAny (model prog w) A (evalPart lower env) (fun l s₁ => wpAny (model prog w) A (evalPart upper env) (fun u s₂ => wpAny (model prog w) A (evalPart step env) (fun st s₃ =>
      Q (.ref s₃.heap.objs.size) { s₃ with heap := s₃.heap.push { cls := .type "slice", data := .fields #[l, u, st] } }) E s₂) E s₁) E s) :
    wpAny (model prog w) A (eval (.Slice lower upper step p) env) Q E s := wpAny_Slice h
theorem callB1 {id : String} {nm : Str} {p1 p3 : Pos} {e : Expr} {Q : Value → Shared → Prop} (hname : ∀ Q', Q' (.builtin id) s → wpAny (model prog w) A (eval (.Name nm p1) env) Q' E s)
    (h : wpAny (model prog w) A (eval e env) (fun v s₁ => wpAny (model prog w) A (call (.builtin id) [v]) Q E s₁) E s) (hbt : backTo p3 (starEach [e] env) = [(false, eval e env)] := by rfl) :
    wpAny (model prog w) A (eval (.Call (.Name nm p1) [e] [] p3) env) Q E s := by
  refine wpAny_Call_NameR (hname _ ?_)
  rw [hbt]
  refine Calls.callWith_builtin rfl (Calls.evalArgs_plain (Calls.spliced_cons (wpAny_mono h (fun v s₁ h₁ => ?_) fun _ _ z => z)))
  exact Calls.spliced_nil h₁
theorem sum_ints' {Q : Value → Shared → Prop} {l : Addr} {vs : List Value} {ns : List Int} (hh : A.handled = none) (hl : s.heap.IsList l vs.toArray) (hI : IntsAre vs ns)
    (hQ : ∀ h' tk t, (∀ b o, s.heap.get? b = some o → h'.get? b = some o) → Q (.int ns.sum t) { s with heap := h', toks := tk }) :
    wpAny (model prog w) A (call (.builtin "sum") [.ref l]) Q E s := by
  have hall : AllInts vs.toArray := by simpa using hI.allInts
  have e := hI.numsOf
  obtain ⟨xs, ex⟩ := hall.items
  have e' : numsOf (intItems xs).toList = ns := by rw [← ex]; simpa using e
  rw [ex] at hl
  rw [nums_intItems] at e'
  refine sum_intListG hh hl fun h' tk t' hk => ?_
  have := hQ h' tk t' hk
  rw [preSum_eq, List.take_of_length_le (by simp), e']; exact this
end
theorem ints_of_got {n : Nat} {f : Nat → Int} : ∀ {ys : List Value}, ys.length = n → (∀ (i : Nat) (y : Value), ys[i]? = some y → ∃ t, y = .int (f i) t) → IntsAre ys ((List.range n).map f) := by
  intro ys
  induction ys generalizing n f with
  | nil => intro h _; cases h; exact .nil
  | cons y ys ih =>
    intro h hy
    cases n with
    | zero => cases h
    | succ n =>
      obtain ⟨t, rfl⟩ := hy 0 y rfl
      rw [List.range_succ_eq_map, List.map_cons, List.map_map]
      exact .cons _ t (ih (f := fun i => f (i + 1)) (Nat.succ.inj h) fun i z hz => hy (i + 1) z hz)
noncomputable def fixedL : List Int := [22, 7, 14, 4, 40, 3, 21, 58, 9, 30, 1, 17, 11, 26]
noncomputable def drawnAt (ns : List Int) (i : Nat) : Int := fixedL.getD i 0 + (pickNums ns (some (i : Int)) (some 56) (some 14)).sum
theorem fixed_at {i : Nat} (hi : i < 14) : fixedL[i]? = some (fixedL.getD i 0) := by
  have : i < fixedL.length := hi
  simp [this]
theorem partE {prog : Program} {w : World} {A : Around} {E : Value → Shared → Prop} {s : Shared} {env : Env} {e : Expr} {Q : Value → Shared → Prop} (h : wpAny (model prog w) A (eval e env) Q E s) : wpAny (model prog w) A (evalPart (some e) env) Q E s := h
theorem partN {prog : Program} {w : World} {A : Around} {E : Value → Shared → Prop} {s : Shared} {env : Env} {Q : Value → Shared → Prop} (h : Q .none s) : wpAny (model prog w) A (evalPart none env) Q E s := wpAny_pure h
section
variable {prog : Program} {w : World} {A : Around} {E : Value → Shared → Prop} {s : Shared}
theorem slice_K {ops : List Value} {value slice : Expr} {g : Heap} {L l : Addr} {m : Str → Option Value} {news : List (Addr × Obj)} {vs : List Value} {vl vu vk : Value} {lo hi st : Option Int} {Q : Value → Shared → Prop} (F : Fr g L s.heap m) (N : News g L s.heap news) (hl : g.IsList l vs.toArray)
    (pl : IsPart vl lo) (pu : IsPart vu hi) (pk : IsPart vk st) (h0 : st ≠ some 0) (hz : vs.length ≤ 1000)
    (h : ∀ D h', (∀ b o, s.heap.get? b = some o → h'.get? b = some o) → Fr g L h' m → News g L h' ((D, ({ cls := .type "list", data := .seq (slicePick vs.toArray lo hi st) } : Obj)) :: news) → Q (.ref D) { s with heap := h' })
    (hs : subscripted slice false (.ref l) (.ref s.heap.objs.size) = operate ops (getItem (.ref l) (.ref s.heap.objs.size)) := by with_unfolding_all rfl) (hg : ∀ r, letTemporaryGo value (.ref l) r = pure () := by intro _; with_unfolding_all rfl) :
    wpAny (model prog w) A (subscriptTail value slice (.ref l) (.ref s.heap.objs.size)) Q E { s with heap := s.heap.push { cls := .type "slice", data := .fields #[vl, vu, vk] } } := by
  have k1 : ∀ b o, s.heap.get? b = some o → (s.heap.push { cls := .type "slice", data := .fields #[vl, vu, vk] }).get? b = some o := fun b o e => Heap.get?_push_of_some _ e
  have F1 := frK F k1
  have N1 := newsK N k1
  have hl1 : (s.heap.push { cls := .type "slice", data := .fields #[vl, vu, vk] }).IsList l vs.toArray := hl.at fun o e => F1.keep _ _ e
  refine slice_list (s := { s with heap := s.heap.push { cls := .type "slice", data := .fields #[vl, vu, vk] } }) hl1 (Heap.IsSliceOf.new ..) pl pu pk h0 (by simpa using hz) ?_ hs hg
  have k2 : ∀ o b o', (s.heap.push { cls := .type "slice", data := .fields #[vl, vu, vk] }).get? b = some o' → ((s.heap.push { cls := .type "slice", data := .fields #[vl, vu, vk] }).push o).get? b = some o' := fun o b o' e => Heap.get?_push_of_some o e
  refine h _ _ (fun b o e => k2 _ _ _ (k1 _ _ e)) (frK F1 (k2 _)) (newsC F1 N1 (k2 _) ?_ (Heap.get?_push_size _ rfl))
  cases q : (s.heap.push { cls := .type "slice", data := .fields #[vl, vu, vk] }).get? (s.heap.push { cls := .type "slice", data := .fields #[vl, vu, vk] }).objs.size with
  | none => rfl
  | some o => exact absurd (Heap.lt_size q) (Nat.lt_irrefl _)
end
theorem words_p28_0 : True := by
  k_with "subscriptTail Name Slice ref ref" => ((rename Fr _ _ _ _ => F'); (rename News _ _ _ _ => N'); refine slice_K F' N' (by assumption) (by constructor) (by constructor) (by constructor) (by decide) (by assumption) ?_; clear F' N'; intro _ _ _ _ _)
  trivial
theorem pow_ne {a : Int} (h : a ≠ 0) : ∀ k : Nat, a ^ k ≠ 0
  | 0 => by simp
  | k + 1 => by rw [Int.pow_succ]; exact Int.mul_ne_zero (pow_ne h k) h
theorem words_p29_0 : True := by
  k_with "eval Name" => ((with_reducible show wpAny _ _ (eval (Expr.Name _ _) (envOfC _ _ _ _ _)) _ _ _); refine ldLoc (Fr.ns (by assumption)) (by with_reducible assumption) ?_)
  trivial
theorem abs_size {g h : Heap} {L : Addr} {m₀ : Str → Option Value} {v : Value} (F : Fr g L h (fun y => if y = Str.ofString "size" then some v else m₀ y)) : ∃ m, m (Str.ofString "size") = some v ∧ Fr g L h m := ⟨_, if_pos rfl, F⟩
theorem cell_eq {o : Obj} {a b : Int} {t : Tok} (e : o.data = .cell (some (.int a t))) (h : a = b) : ∃ t, o.data = .cell (some (.int b t)) := ⟨t, h ▸ e⟩
theorem loc_eq {m : Str → Option Value} {x : Str} {a b : Int} {t : Tok} (e : m x = some (.int a t)) (h : a = b) : ∃ t, m x = some (.int b t) := ⟨t, h ▸ e⟩
theorem params_of (d0 : Int) : ∃ wd qq n : Nat, 2 + d0.fmod 3 = (wd : Int) ∧ 2 ≤ wd ∧ wd ≤ 4 ∧ (2 + d0.fmod 3) * (2 + (d0.fdiv 3).fmod 2) = ((wd * qq : Nat) : Int) ∧ 2 ≤ qq ∧ qq ≤ 3 ∧ 2 + (d0.fdiv 6).fmod 8 = (n : Int) ∧ 2 ≤ n ∧ n ≤ 9 := by
  have h1 := Int.fmod_nonneg_of_pos d0 (b := 3) (by decide)
  have h2 := Int.fmod_lt_of_pos d0 (b := 3) (by decide)
  have h3 := Int.fmod_nonneg_of_pos (d0.fdiv 3) (b := 2) (by decide)
  have h4 := Int.fmod_lt_of_pos (d0.fdiv 3) (b := 2) (by decide)
  have h5 := Int.fmod_nonneg_of_pos (d0.fdiv 6) (b := 8) (by decide)
  have h6 := Int.fmod_lt_of_pos (d0.fdiv 6) (b := 8) (by decide)
  refine ⟨(2 + d0.fmod 3).toNat, (2 + (d0.fdiv 3).fmod 2).toNat, (2 + (d0.fdiv 6).fmod 8).toNat, by omega, by omega, by omega, ?_, by omega, by omega, by omega, by omega, by omega⟩
  rw [Int.natCast_mul, Int.toNat_of_nonneg (by omega), Int.toNat_of_nonneg (by omega)]
theorem after_asg {g h h2 : Heap} {L D2 : Addr} {m : Str → Option Value} {news : List (Addr × Obj)} {x : Str} {v : Value} {o : Obj} (F : Fr g L h m) (N : News g L h news) (hD : h.get? D2 = none)
    (hns : h2.Ns L (fun z => if z = x then some v else m z)) (kD : ∀ b o, b ≠ L → h.get? b = some o → h2.get? b = some o) (ho : h2.get? D2 = some o) :
    ∃ m2, m2 x = some v ∧ (∀ y u, y ≠ x → m y = some u → m2 y = some u) ∧ Fr g L h2 m2 ∧ News g L h2 ((D2, o) :: news) ∧ ∀ p ∈ news, p.1 ≠ D2 := by
  have hDL : D2 ≠ L := by obtain ⟨oL, _, _, hL, _⟩ := F.ns; exact ne_of_none_some' hD hL
  refine ⟨_, if_pos rfl, fun y u n e => (if_neg n).trans e, ⟨hns, fun b o e => kD b o (Nat.ne_of_lt (Nat.lt_of_lt_of_le (Heap.lt_size e) F.above)) (F.keep b o e), F.above⟩, ?_, newsNe N hD⟩
  intro p hp
  rcases List.mem_cons.mp hp with rfl | hp
  · refine ⟨ho, hDL, ?_⟩
    cases q : g.get? D2 with
    | none => rfl
    | some o' => rw [F.keep _ _ q] at hD; cases hD
  · exact ⟨kD _ _ (N p hp).2.1 (N p hp).1, (N p hp).2⟩
noncomputable def firstAt (dn : List Int) (n : Nat) (i : Nat) : Int := ((dn.getD 1 0).fdiv ((n : Int) ^ i)).fmod n
theorem abs_set {g h : Heap} {L : Addr} {m : Str → Option Value} {x : Str} {v : Value} (F : Fr g L h (fun y => if y = x then some v else m y)) : ∃ m2, m2 x = some v ∧ (∀ y u, y ≠ x → m y = some u → m2 y = some u) ∧ Fr g L h m2 :=
  ⟨_, if_pos rfl, fun _ _ n e => (if_neg n).trans e, F⟩
noncomputable def aheadOf (dn : List Int) (wd n : Nat) : Int := 1 + ((dn.getD 1 0).fdiv ((n : Int) ^ (wd - 1))).fmod ((n : Int) - 1)
theorem ahead_eq (dn : List Int) {wd n : Nat} (h : 2 ≤ wd) : 1 + ((dn.getD (Int.toNat 1) 0).fdiv ((n : Int) ^ ((wd : Int) - 1).toNat)).fmod ((n : Int) - 1) = aheadOf dn wd n := by
  unfold aheadOf
  rw [show ((wd : Int) - 1).toNat = wd - 1 by omega]; rfl
theorem isList_listOf {h : Heap} {D : Addr} {a : Array Value} {c : Nat} (e : h.get? D = some (W.listOf a c)) : h.IsList D a := ⟨_, e, rfl, _, rfl⟩
theorem get_size_none (h : Heap) : h.get? h.objs.size = none := by
  cases q : h.get? h.objs.size with
  | none => rfl
  | some o => exact absurd (Heap.lt_size q) (Nat.lt_irrefl _)
theorem fm_big (a : Int) {k : Int} (h0 : 0 < k) (h : k < 50) : (1 + a.fmod k).natAbs < 2 ^ 1023 := lt_big (by have := Int.fmod_nonneg_of_pos a h0; omega) (by have := Int.fmod_lt_of_pos a h0; omega)
theorem newTuple_elt {M : Model} {A : Around} {E : Value → Shared → Prop} {s₀ : Shared} {tk : Nat} {R : Value → Option (Addr × Obj) → Prop} {items : List Value} (hsz : items.length ≤ 100) (h : R (.ref s₀.heap.objs.size) (some (s₀.heap.objs.size, { cls := .type "tuple", data := .seq items.toArray }))) :
    wpAny M A (newTuple items) (fun y s₄ => (∃ ob, R y ob ∧ ∀ p, ob = some p → s₀.heap.get? p.1 = none ∧ s₄.heap.get? p.1 = some p.2) ∧ Keeps s₀ s₄) E ⟨s₀.heap, s₀.gens, s₀.drawn, tk, s₀.os⟩ := by
  unfold newTuple
  refine wpAny_newObj_type ?_ (by show items.toArray.size ≤ sizeLine; rw [sizeLine_eq, List.size_toArray]; omega)
  refine ⟨⟨_, h, fun p e => ?_⟩, _, _, rfl, fun b o e => Heap.get?_push_of_some _ e⟩
  cases e
  exact ⟨get_size_none _, Heap.get?_push_size _ rfl⟩
/-- a look: hue, share, value as the law draws them -/
noncomputable def lookHue (x : Int) (n : Nat) : Int := x.fmod n
noncomputable def lookShare (x : Int) (n : Nat) : UInt64 := quo (1 + (x.fdiv n).fmod 2) 2
noncomputable def lookValue (x : Int) (n : Nat) : UInt64 := quo (1 + ((x.fdiv n).fdiv 2).fmod 4) 4
abbrev lookObj (a : Int) (b c : UInt64) (t u v : Tok) : Obj := { cls := .type "tuple", data := .seq #[.int a t, .float b u, .float c v] }
noncomputable def LookR (dn : List Int) (n : Nat) (i : Nat) (y : Value) (ob : Option (Addr × Obj)) : Prop :=
  ∃ T x t u v, dn[2 + i]? = some x ∧ y = .ref T ∧ ob = some (T, lookObj (lookHue x n) (lookShare x n) (lookValue x n) t (u + 1) (v + 1))
section
variable {prog : Program} {w : World} {A : Around} {E : Value → Shared → Prop} {s : Shared} {env : Env} {g : Heap} {L : Addr} {m : Str → Option Value} {news : List (Addr × Obj)}
theorem storeC {x : Str} {c : Addr} {o : Obj} {v₀ : Option Value} {v : Value} {Q : Unit → Shared → Prop} (F : Fr g L s.heap m) (N : News g L s.heap ((c, o) :: news)) (hd : o.data = .cell v₀) (hap : ∀ p ∈ news, p.1 ≠ c)
    (h : ∀ h' o', (∀ b ob, b ≠ c → s.heap.get? b = some ob → h'.get? b = some ob) → Fr g L h' m → News g L h' ((c, o') :: news) → o'.data = .cell (some v) → Q () { s with heap := h' })
    (hc : env.cells.lookup x = some c := by rfl) (hk : env.scope.kind = .function := by rfl) (hl : env.kindOf x = some .cell := by rfl) :
    wpAny (model prog w) A (storeName env x v) Q E s := by
  have hm := N _ (.head _)
  refine wpAny_storeName_cell hk hl hc ⟨o, hm.1, hd⟩ fun h' hv hs => ?_
  obtain ⟨o', ho', hd'⟩ := hv
  have k : ∀ b ob, b ≠ c → s.heap.get? b = some ob → h'.get? b = some ob := fun b ob hb e => hs.extBut b ob hb e
  refine h h' o' k ⟨F.ns.sameBut hs (Ne.symm hm.2.1), fun b ob e => k b ob (fun q => by rw [q, hm.2.2] at e; cases e) (F.keep b ob e), F.above⟩ ?_ hd'
  intro p hp
  rcases List.mem_cons.mp hp with rfl | hp
  · exact ⟨ho', hm.2⟩
  · exact ⟨k _ _ (hap p hp) (N p (.tail _ hp)).1, (N p (.tail _ hp)).2⟩
end
theorem words_p30_0 : True := by
  k_with "storeName" => ((with_reducible show wpAny _ _ (storeName (envOfC _ _ _ _ _) _ _) _ _ _); (rename Fr _ _ _ _ => F'); (rename News _ _ _ _ => N'); refine storeL F' N' ?_; clear F' N'; intro _ _ _ _)
  trivial
noncomputable def LooksAt (g h : Heap) (L : Addr) (dn : List Int) (n N : Nat) (lv : List Value) : Prop :=
  lv.length = N ∧ ∀ i, i < N → ∃ T t u v, lv[i]? = some (.ref T) ∧ g.get? T = none ∧ T ≠ L ∧ h.get? T = some (lookObj (lookHue (dn.getD (2 + i) 0) n) (lookShare (dn.getD (2 + i) 0) n) (lookValue (dn.getD (2 + i) 0) n) t (u + 1) (v + 1))
theorem LooksAt.keep {g h h' : Heap} {L : Addr} {dn : List Int} {n N : Nat} {lv : List Value} (x : LooksAt g h L dn n N lv) (k : ∀ b o, b ≠ L → g.get? b = none → h.get? b = some o → h'.get? b = some o) : LooksAt g h' L dn n N lv :=
  ⟨x.1, fun i hi => let ⟨T, t, u, v, a, b, c, d⟩ := x.2 i hi; ⟨T, t, u, v, a, b, c, k _ _ c b d⟩⟩
theorem hsvOk_table : ∀ n : Fin 10, ∀ k : Fin 10, 2 ≤ n.val → k.val < n.val → HsvOk (quo (k.val : Int) (n.val : Int)) (quo 1 2) ∧ HsvOk (quo (k.val : Int) (n.val : Int)) (quo 2 2) := by unfold HsvOk; decide +kernel
theorem look_share (x : Int) (n : Nat) : lookShare x n = quo 1 2 ∨ lookShare x n = quo 2 2 := by
  unfold lookShare
  have h1 := Int.fmod_nonneg_of_pos (x.fdiv n) (b := 2) (by decide)
  have h2 := Int.fmod_lt_of_pos (x.fdiv n) (b := 2) (by decide)
  have : (x.fdiv n).fmod 2 = 0 ∨ (x.fdiv n).fmod 2 = 1 := by omega
  rcases this with h | h <;> rw [h] <;> simp
theorem look_value (x : Int) (n : Nat) : lookValue x n = quo 1 4 ∨ lookValue x n = quo 2 4 ∨ lookValue x n = quo 3 4 ∨ lookValue x n = quo 4 4 := by
  unfold lookValue
  have h1 := Int.fmod_nonneg_of_pos ((x.fdiv n).fdiv 2) (b := 4) (by decide)
  have h2 := Int.fmod_lt_of_pos ((x.fdiv n).fdiv 2) (b := 4) (by decide)
  have : ((x.fdiv n).fdiv 2).fmod 4 = 0 ∨ ((x.fdiv n).fdiv 2).fmod 4 = 1 ∨ ((x.fdiv n).fdiv 2).fmod 4 = 2 ∨ ((x.fdiv n).fdiv 2).fmod 4 = 3 := by omega
  rcases this with h | h | h | h <;> rw [h] <;> simp
theorem look_hue (x : Int) {n : Nat} (h : 2 ≤ n) : ∃ k : Nat, k < n ∧ lookHue x n = (k : Int) := by
  unfold lookHue
  have h1 := Int.fmod_nonneg_of_pos x (b := n) (by omega)
  have h2 := Int.fmod_lt_of_pos x (b := n) (by omega)
  exact ⟨(x.fmod n).toNat, by omega, by omega⟩
theorem look_ok (x : Int) {n : Nat} (h : 2 ≤ n) (h9 : n ≤ 9) : HsvOk (quo (lookHue x n) n) (lookShare x n) := by
  obtain ⟨k, hk, e⟩ := look_hue x h
  rw [e]
  have t := hsvOk_table ⟨n, by omega⟩ ⟨k, by omega⟩ h hk
  rcases look_share x n with e | e <;> rw [e]
  · exact t.1
  · exact t.2
section
variable {prog : Program} {w : World} {A : Around} {s : Shared}
theorem has_tup3 {B : (Str → Option Value) → Prop} {xa xb xc : Str} {pa pb pc pt : Pos} {kt : Nat} {cenv : Env} {C T : Addr} {I l j : Addr} {va vb vc : Value} {ot : Obj} {nt : Nat} {m₃ : Str → Option Value} (hh : A.handled = none) (hl : cenv.locals = C) (hxa : cenv.kindOf xa = some .local) (hxb : cenv.kindOf xb = some .local) (hxc : cenv.kindOf xc = some .local)
    (hab : xa ≠ xb) (hac : xa ≠ xc) (hbc : xb ≠ xc) (hp : (cenv.scope.kind == .class || (cenv.scope.kind == .module && cenv.locals != cenv.globals)) = false) (hT : s.heap.get? T = some ot) (hTc : ot.cls = .type "tuple") (hTd : ot.data = .seq #[va, vb, vc] nt) (hit : s.heap.IsListIter I l j) (hn : s.heap.Ns C m₃) (hB : ∀ m, m xa = some va → m xb = some vb → m xc = some vc → B m) :
    wpAny (model prog w) A (letOwnedTupleGo (.Tuple [.Name xa pa, .Name xb pb, .Name xc pc] kt pt) (.ref I) (.ref T)) (fun _ s₄ => wpAny (model prog w) A (assign (.Tuple [.Name xa pa, .Name xb pb, .Name xc pc] kt pt) cenv (.ref T)) (fun _ s₅ => ∃ h' tk, s₅ = { s with heap := h', toks := tk } ∧ (∀ b o, b ≠ C → s.heap.get? b = some o → h'.get? b = some o) ∧ ∃ m₅, h'.Ns C m₅ ∧ B m₅) (fun _ _ => False) s₄) (fun _ _ => False) s := by
  subst hl
  refine wpAny_letOwnedTupleGo_listiter hit ?_
  refine wpAny_assign_Tuple hh ⟨ot, hT, hTc, nt, hTd⟩ rfl rfl fun h₁ hx₁ => ?_
  have old : ∀ b o, s.heap.get? b = some o → h₁.get? b = some o := fun b o e => hx₁ b o (Nat.ne_of_lt (Heap.lt_size e)) e
  show wpAny _ _ (do holding [vb, vc] (assign (.Name xa pa) cenv va); do holding [vc] (assign (.Name xb pb) cenv vb); do holding [] (assign (.Name xc pc) cenv vc); pure ()) _ _ _
  refine wpAny_bind (wpAny_holding (wpAny_assign_Name (wpAny_storeName_local hxa (hn.at' fun o e => old _ o e) (fun h₂ hn₂ hs₂ => ?_) hp)))
  refine wpAny_bind (wpAny_holding (wpAny_assign_Name (wpAny_storeName_local hxb hn₂ (fun h₃ hn₃ hs₃ => ?_) hp)))
  refine wpAny_bind (wpAny_holding (wpAny_assign_Name (wpAny_storeName_local hxc hn₃ (fun h₄ hn₄ hs₄ => ?_) hp)))
  refine wpAny_pure ⟨h₄, _, rfl, fun b o hb e => hs₄.extBut b o hb (hs₃.extBut b o hb (hs₂.extBut b o hb (old b o e))), _, hn₄, hB _ ?_ ?_ ?_⟩
  · simp [hab, hac]
  · simp [hbc]
  · simp
end
/-- the first colour of a dial -/
noncomputable def colour (x : Int) (n : Nat) : UInt64 × UInt64 × UInt64 := hsvOf (quo (lookHue x n) n) (lookShare x n) (lookValue x n)
noncomputable def RingR (dn : List Int) (n : Nat) (i : Nat) (y : Value) (ob : Option (Addr × Obj)) : Prop :=
  ∃ T t u v, y = .ref T ∧ ob = some (T, tup3 (colour (dn.getD (2 + i) 0) n).1 (colour (dn.getD (2 + i) 0) n).2.1 (colour (dn.getD (2 + i) 0) n).2.2 (t + 1) (u + 1) (v + 1))
noncomputable def LookBd (dn : List Int) (n : Nat) (i : Nat) (m : Str → Option Value) : Prop :=
  ∃ t u v, m "step" = some (.int (lookHue (dn.getD (2 + i) 0) n) t) ∧ m "share" = some (.float (lookShare (dn.getD (2 + i) 0) n) u) ∧ m "value" = some (.float (lookValue (dn.getD (2 + i) 0) n) (v + 1))
noncomputable def RingAt (g h : Heap) (L : Addr) (N : Nat) (col : Nat → UInt64 × UInt64 × UInt64) (rv : List Value) : Prop :=
  rv.length = N ∧ ∀ i, i < N → ∃ T t u v, rv[i]? = some (.ref T) ∧ g.get? T = none ∧ T ≠ L ∧ h.get? T = some (tup3 (col i).1 (col i).2.1 (col i).2.2 (t + 1) (u + 1) (v + 1))
theorem RingAt.keep {g h h' : Heap} {L : Addr} {N : Nat} {col : Nat → UInt64 × UInt64 × UInt64} {rv : List Value} (x : RingAt g h L N col rv) (k : ∀ b o, b ≠ L → g.get? b = none → h.get? b = some o → h'.get? b = some o) : RingAt g h' L N col rv :=
  ⟨x.1, fun i hi => let ⟨T, t, u, v, a, b, c, d⟩ := x.2 i hi; ⟨T, t, u, v, a, b, c, k _ _ c b d⟩⟩
theorem ring_of {g h h5 : Heap} {L D : Addr} {m : Str → Option Value} {dn : List Int} {n N : Nat} {ys : Array Value} (F : Fr g L h m) (hsz : ys.size = N) (hG : ∀ i y, ys[i]? = some y → Got (RingR dn n) h [D] h5 i y) :
    RingAt g h5 L N (fun i => colour (dn.getD (2 + i) 0) n) ys.toList ∧ ∀ T, Value.ref T ∈ ys.toList → T ≠ D := by
  refine ⟨⟨by simpa using hsz, fun i hi => ?_⟩, fun T hT => ?_⟩
  · obtain ⟨ob, ⟨T, t, u, v, hy, rfl⟩, hob⟩ := hG i _ (Array.getElem?_eq_getElem (by rw [hsz]; exact hi))
    obtain ⟨h1, h2, h3⟩ := hob _ rfl
    refine ⟨T, t, u, v, by rw [Array.getElem?_toList, Array.getElem?_eq_getElem (by rw [hsz]; exact hi), hy], ?_, ?_, h3⟩
    · cases q : g.get? T with
      | none => rfl
      | some o => rw [F.keep _ _ q] at h1; cases h1
    · obtain ⟨oL, _, _, hL, _⟩ := F.ns; exact ne_of_none_some' h1 hL
  · obtain ⟨i, hi, e⟩ := List.getElem_of_mem hT
    obtain ⟨ob, ⟨T', t, u, v, hy, rfl⟩, hob⟩ := hG i (.ref T) (by rw [← Array.getElem?_toList, List.getElem?_eq_getElem hi, e])
    cases hy
    have := (hob _ rfl).2.1
    simpa using this
section
variable {prog : Program} {w : World} {A : Around} {R : Result → Shared → Prop} {E : Value → Shared → Prop} {s : Shared} {env : Env}
/-- a for over what walks, the turns told by an invariant J; mu: what the body may change -/
theorem for_walk {x : Str} {px : Pos} {body : List Stmt} {I : Addr} {fp : List Addr} {n : Nat} {P : Nat → Value → Prop} {St : Nat → Heap → Prop} (W : Walks prog w A I fp [I] n P St) (mu : List Addr) (hfp : ∀ b ∈ fp, b ∉ mu) (J : Nat → Shared → Prop)
    (hst : St 0 s.heap) (h0 : J 0 s) (hJ : ∀ i s h' tk, J i s → St i s.heap → (∀ b o, b ≠ I → s.heap.get? b = some o → h'.get? b = some o) → J i { s with heap := h', toks := tk })
    (step : ∀ i v s₁, i < n → P i v → J i s₁ → wpAny (model prog w) A (assign (.Name x px) env v) (fun _ s₂ => wpAny (model prog w) A (execs body env) (fun f s₃ => f = .next ∧ J (i + 1) s₃ ∧ (∀ b o, b ∉ mu → s₁.heap.get? b = some o → s₃.heap.get? b = some o)) (fun _ _ => False) s₂) (fun _ _ => False) s₁)
    (hR : ∀ s', J n s' → R (.ok .next) s') : codeAny (model prog w) A (.forLoop (.Name x px) (.ref I) body [] env) R s := by
  refine codeAny_forLoop (fun k s' => ∃ i, i ≤ n ∧ k = n + 1 - i ∧ St i s'.heap ∧ J i s') ?_ (n + 1) ⟨0, Nat.zero_le _, rfl, hst, h0⟩
  rintro k s₁ ⟨i, hi, rfl, hs, hj⟩
  by_cases hlt : i < n
  · refine W.item i _ _ _ hlt hs fun v h' tk hP hst' hk => ?_
    have hk : ∀ b o, b ≠ I → s₁.heap.get? b = some o → h'.get? b = some o := fun b o nb e => hk b o (by simpa using nb) e
    refine wpAny_mono (step i v _ hlt hP (hJ i s₁ h' tk hj hs hk)) (fun _ s₂ h₂ => ?_) fun _ _ z => z.elim
    refine wpAny_mono h₂ (fun f s₃ h₃ => ?_) fun _ _ z => z.elim
    obtain ⟨rfl, hj3, hk3⟩ := h₃
    exact ⟨n + 1 - (i + 1), by omega, i + 1, hlt, rfl, W.frame _ _ _ hst' fun b hb o e => hk3 b o (hfp b hb) e, hj3⟩
  · have hin : i = n := by omega
    subst hin
    refine W.done _ _ _ hs fun h' tk hk => ?_
    have hk : ∀ b o, b ≠ I → s₁.heap.get? b = some o → h'.get? b = some o := fun b o nb e => hk b o (by simpa using nb) e
    rw [execs_nil]
    exact wpAny_pure (hR _ (hJ _ s₁ h' tk hj hs hk))
end
noncomputable def blanks (k : Int) : Str := ⟨Array.replicate k.toNat 32⟩
noncomputable def PiecesAre (ps : List Piece) (ks : List Int) : Prop := ps.map (fun p => (p.2.1.1, p.2.2.1)) = ks.map fun k => (blanks k, (⟨#[]⟩ : Str))
theorem lt66 {w : World} {h : Heap} (X : (Mine.hd.heap_39 w.params).In h) : 66 < h.objs.size := by
  have e : ((Mine.hd.heap_39 w.params).lookup 66).map codeChk = some true := by kernel_rfl
  obtain ⟨o, e1, e2⟩ := Option.map_eq_some_iff.mp e
  exact Heap.lt_size (X _ _ e1)
theorem shadow_of {hh sz : Int} {kt tz : Tok} {k : Nat} {nm : Str} (h : (Str.ofString "_initial_size" == nm) = false) : shadowIn (some (szObj hh kt tz sz k)) nm = some false := by
  unfold shadowIn
  show Option.map _ (getL nm [⟨hh, .str (Str.ofString "_initial_size") kt, .int sz tz⟩]) = some false
  simp [getL, Value.isStr, h, DictEntry.refKey]
theorem blank_len : (Str.ofString " ").length = 1 := by decide +kernel
theorem blank_table : ∀ j : Fin 20, Txt.mul (Str.ofString " ") (j.val : Int) = blanks (j.val : Int) := by decide +kernel
theorem mul_blank {prog : Program} {w : World} {A : Around} {E : Value → Shared → Prop} {s : Shared} {k : Int} {t u : Tok} {Q : Value → Shared → Prop} (h0 : 0 ≤ k) (h1 : k < 20)
    (hQ : ∀ t' tk, Q (.str (blanks k) t') { s with toks := tk }) : wpAny (model prog w) A (binaryOp .Mult (.str (Str.ofString " ") t) (.int k u)) Q E s := by
  have hk : ∃ j : Nat, j < 20 ∧ k = (j : Int) := ⟨k.toNat, by omega, by omega⟩
  obtain ⟨j, hj, rfl⟩ := hk
  refine SB.mul (mulOk_of 1 20 (by rw [blank_len]; exact Nat.le_refl _) (by omega) (by omega) (by decide) (by decide)) fun t' k => ?_
  rw [blank_table ⟨j, hj⟩]
  exact hQ _ _
theorem words_p34_0 : True := by
  k_with "binaryOp Mult str int" => (refine mul_blank (by assumption) (by assumption) ?_; intro _ _; try dsimp only)
  trivial
/-- the addresses that the loops change stand apart -/
structure Apart (g : Heap) (L D4 xw xd : Addr) (news : List (Addr × Obj)) : Prop where
  gx : g.get? xw = none
  gd : g.get? xd = none
  g4 : g.get? D4 = none
  g62 : g.get? 62 = none
  g66 : ∃ o, g.get? 66 = some o
  xL : xw ≠ L
  dL : xd ≠ L
  rL : D4 ≠ L
  tL : 62 ≠ L
  hL : 66 ≠ L
  xe : xw ≠ xd
  xr : xw ≠ D4
  xt : xw ≠ 62
  dr : xd ≠ D4
  dt : xd ≠ 62
  rt : D4 ≠ 62
  nx : ∀ p ∈ news, p.1 ≠ xw
  nd : ∀ p ∈ news, p.1 ≠ xd
  nr : ∀ p ∈ news, p.1 ≠ D4
  nt : ∀ p ∈ news, p.1 ≠ 62
/-- h' is h but for the addresses that the loops change -/
noncomputable def Near (L D4 xw xd : Addr) (h h' : Heap) : Prop := ∀ b o, b ≠ L → b ≠ xw → b ≠ xd → b ≠ D4 → b ≠ 62 → h.get? b = some o → h'.get? b = some o
theorem Near.of {L D4 xw xd : Addr} {h h' : Heap} (k : ∀ b o, h.get? b = some o → h'.get? b = some o) : Near L D4 xw xd h h' := fun b o _ _ _ _ _ e => k b o e
theorem Near.ofL {L D4 xw xd : Addr} {h h' : Heap} (k : ∀ b o, b ≠ L → h.get? b = some o → h'.get? b = some o) : Near L D4 xw xd h h' := fun b o n _ _ _ _ e => k b o n e
theorem Near.ofX {L D4 xw xd : Addr} {h h' : Heap} (k : ∀ b o, b ≠ xw → h.get? b = some o → h'.get? b = some o) : Near L D4 xw xd h h' := fun b o _ n _ _ _ e => k b o n e
theorem Near.ofXD {L D4 xw xd : Addr} {h h' : Heap} (k : ∀ b o, b ≠ xw → b ≠ xd → h.get? b = some o → h'.get? b = some o) : Near L D4 xw xd h h' := fun b o _ n n' _ _ e => k b o n n' e
theorem Near.of4 {L D4 xw xd : Addr} {h h' : Heap} (k : ∀ b o, b ≠ D4 → h.get? b = some o → h'.get? b = some o) : Near L D4 xw xd h h' := fun b o _ _ _ n _ e => k b o n e
theorem Near.of62 {L D4 xw xd : Addr} {h h' : Heap} (k : ∀ b o, b ≠ 62 → h.get? b = some o → h'.get? b = some o) : Near L D4 xw xd h h' := fun b o _ _ _ _ n e => k b o n e
theorem Near.trans {L D4 xw xd : Addr} {h h' h'' : Heap} (a : Near L D4 xw xd h h') (b : Near L D4 xw xd h' h'') : Near L D4 xw xd h h'' := fun c o n1 n2 n3 n4 n5 e => b c o n1 n2 n3 n4 n5 (a c o n1 n2 n3 n4 n5 e)
/-- what the loops of law keep: the frame, the fixed lists and cells, the ring, the window, its pieces -/
structure LawS (g : Heap) (L : Addr) (dn : List Int) (n N : Nat) (D4 xw xd : Addr) (lv : List Value) (news : List (Addr × Obj)) (h₀ : Heap) (m : Str → Option Value) (col : Nat → UInt64 × UInt64 × UInt64) (ps : List Piece) (sz : Int) (h : Heap) (gs : Array GenState) : Prop where
  ap : Apart g L D4 xw xd news
  fr : Fr g L h m
  news : News g L h news
  ring : ∃ rv : List Value, h.IsList D4 rv.toArray ∧ RingAt g h L N col rv
  looks : LooksAt g h L dn n N lv
  win : ∃ ep, h.get? xw = some (winObj xd (piecesIts ps) ep)
  size : ∃ hh kt tz k, h.get? xd = some (szObj hh kt tz sz k)
  pcs : ∀ p ∈ ps, h.get? p.1 = some (pieceObj p) ∧ g.get? p.1 = none ∧ p.1 ≠ L
  tab : Tab h
  bare : AllBare gs
  since : Near L D4 xw xd h₀ h
section
variable {g : Heap} {L : Addr} {dn : List Int} {n N : Nat} {D4 xw xd : Addr} {lv : List Value} {news : List (Addr × Obj)} {h₀ : Heap} {m m' : Str → Option Value} {col col' : Nat → UInt64 × UInt64 × UInt64} {ps ps' : List Piece} {sz sz' : Int} {h h' : Heap} {gs gs' : Array GenState}
/-- a tuple is none of the changing ones -/
theorem LawS.tup (x : LawS g L dn n N D4 xw xd lv news h₀ m col ps sz h gs) {T : Addr} {o : Obj} (e : h.get? T = some o) (c : o.cls = .type "tuple") : T ≠ xw ∧ T ≠ xd ∧ T ≠ D4 ∧ T ≠ 62 := by
  obtain ⟨ep, hx⟩ := x.win
  obtain ⟨hh, kt, tz, k, hd⟩ := x.size
  obtain ⟨rv, ⟨o4, hr, hrc, _⟩, _⟩ := x.ring
  obtain ⟨ps', _, ht⟩ := x.tab
  have ht := ht.2
  refine ⟨?_, ?_, ?_, ?_⟩ <;> rintro rfl
  · rw [hx] at e; cases e; cases c
  · rw [hd] at e; cases e; exact absurd (Value.type.inj c) (by decide)
  · rw [hr] at e; cases e; exact absurd (Value.type.inj (hrc.symm.trans c)) (by decide)
  · rw [ht] at e; cases e; cases c
theorem LawS.ringN (x : LawS g L dn n N D4 xw xd lv news h₀ m col ps sz h gs) (k : Near L D4 xw xd h h') {rv : List Value} (r : RingAt g h L N col' rv) : RingAt g h' L N col' rv :=
  ⟨r.1, fun i hi => let ⟨T, t, u, v, a, b, c, d⟩ := r.2 i hi; ⟨T, t, u, v, a, b, c, let ⟨n1, n2, n3, n4⟩ := x.tup d rfl; k _ _ c n1 n2 n3 n4 d⟩⟩
theorem LawS.pcsN (x : LawS g L dn n N D4 xw xd lv news h₀ m col ps sz h gs) (k : Near L D4 xw xd h h') : ∀ p ∈ ps, h'.get? p.1 = some (pieceObj p) ∧ g.get? p.1 = none ∧ p.1 ≠ L := fun p hp =>
  let ⟨a, b, c⟩ := x.pcs p hp
  ⟨let ⟨n1, n2, n3, n4⟩ := x.tup a rfl; k _ _ c n1 n2 n3 n4 a, b, c⟩
theorem LawS.go (x : LawS g L dn n N D4 xw xd lv news h₀ m col ps sz h gs) (k : Near L D4 xw xd h h') (hn : h'.Ns L m') (ring : ∃ rv : List Value, h'.IsList D4 rv.toArray ∧ RingAt g h' L N col' rv)
    (win : ∃ ep, h'.get? xw = some (winObj xd (piecesIts ps') ep)) (size : ∃ hh kt tz k, h'.get? xd = some (szObj hh kt tz sz' k)) (pcs : ∀ p ∈ ps', h'.get? p.1 = some (pieceObj p) ∧ g.get? p.1 = none ∧ p.1 ≠ L) (tab : Tab h') (bare : AllBare gs') :
    LawS g L dn n N D4 xw xd lv news h₀ m' col' ps' sz' h' gs' where
  ap := x.ap
  fr := ⟨hn, fun b o e => k b o (Nat.ne_of_lt (Nat.lt_of_lt_of_le (Heap.lt_size e) x.fr.above)) (fun q => by rw [q, x.ap.gx] at e; cases e) (fun q => by rw [q, x.ap.gd] at e; cases e) (fun q => by rw [q, x.ap.g4] at e; cases e) (fun q => by rw [q, x.ap.g62] at e; cases e) (x.fr.keep b o e), x.fr.above⟩
  news := fun p hp => ⟨k _ _ (x.news p hp).2.1 (x.ap.nx p hp) (x.ap.nd p hp) (x.ap.nr p hp) (x.ap.nt p hp) (x.news p hp).1, (x.news p hp).2⟩
  ring := ring
  looks := ⟨x.looks.1, fun i hi => let ⟨T, t, u, v, a, b, c, d⟩ := x.looks.2 i hi; ⟨T, t, u, v, a, b, c, let ⟨n1, n2, n3, n4⟩ := x.tup d rfl; k _ _ c n1 n2 n3 n4 d⟩⟩
  win := win
  size := size
  pcs := pcs
  tab := tab
  bare := bare
  since := x.since.trans k
theorem LawS.tabAt (x : LawS g L dn n N D4 xw xd lv news h₀ m col ps sz h gs) (k : Near L D4 xw xd h h') (k62 : ∀ o, h.get? 62 = some o → h'.get? 62 = some o) : Tab h' := x.tab.at fun b o hb e => by
  obtain ⟨o6, e6⟩ := x.ap.g66
  rcases hb with rfl | rfl
  · exact k _ _ x.ap.hL (fun q => by rw [q, x.ap.gx] at e6; cases e6) (fun q => by rw [q, x.ap.gd] at e6; cases e6) (fun q => by rw [q, x.ap.g4] at e6; cases e6) (by decide) e
  · exact k62 _ e
theorem LawS.keep (x : LawS g L dn n N D4 xw xd lv news h₀ m col ps sz h gs) (k : ∀ b o, h.get? b = some o → h'.get? b = some o) : LawS g L dn n N D4 xw xd lv news h₀ m col ps sz h' gs :=
  x.go (.of k) (x.fr.ns.keeps k) (let ⟨rv, a, b⟩ := x.ring; ⟨rv, a.at fun o e => k _ o e, x.ringN (.of k) b⟩) (let ⟨ep, a⟩ := x.win; ⟨ep, k _ _ a⟩) (let ⟨hh, kt, tz, q, a⟩ := x.size; ⟨hh, kt, tz, q, k _ _ a⟩) (x.pcsN (.of k)) (x.tab.keeps k) x.bare
theorem LawS.local (x : LawS g L dn n N D4 xw xd lv news h₀ m col ps sz h gs) (hn : h'.Ns L m') (k : ∀ b o, b ≠ L → h.get? b = some o → h'.get? b = some o) : LawS g L dn n N D4 xw xd lv news h₀ m' col ps sz h' gs :=
  x.go (.ofL k) hn (let ⟨rv, a, b⟩ := x.ring; ⟨rv, a.at fun o e => k _ o x.ap.rL e, x.ringN (.ofL k) b⟩) (let ⟨ep, a⟩ := x.win; ⟨ep, k _ _ x.ap.xL a⟩) (let ⟨hh, kt, tz, q, a⟩ := x.size; ⟨hh, kt, tz, q, k _ _ x.ap.dL a⟩) (x.pcsN (.ofL k)) (x.tabAt (.ofL k) fun _ e => k _ _ x.ap.tL e) x.bare
/-- after len(window): the table of codes may have grown -/
theorem LawS.lens (x : LawS g L dn n N D4 xw xd lv news h₀ m col ps sz h gs) (k : ∀ b o, b ≠ 62 → h.get? b = some o → h'.get? b = some o) (T : Tab h') (B : AllBare gs') : LawS g L dn n N D4 xw xd lv news h₀ m col ps sz h' gs' :=
  x.go (.of62 k) (x.fr.ns.at' fun o e => k _ o (Ne.symm x.ap.tL) e) (let ⟨rv, a, b⟩ := x.ring; ⟨rv, a.at fun o e => k _ o x.ap.rt e, x.ringN (.of62 k) b⟩) (let ⟨ep, a⟩ := x.win; ⟨ep, k _ _ x.ap.xt a⟩) (let ⟨hh, kt, tz, q, a⟩ := x.size; ⟨hh, kt, tz, q, k _ _ x.ap.dt a⟩) (x.pcsN (.of62 k)) T B
theorem LawS.winsz (x : LawS g L dn n N D4 xw xd lv news h₀ m col ps sz h gs) (k : ∀ b o, b ≠ xw → b ≠ xd → h.get? b = some o → h'.get? b = some o) (hw : ∃ ep, h'.get? xw = some (winObj xd (piecesIts ps') ep)) (hs : ∃ hh kt tz k, h'.get? xd = some (szObj hh kt tz sz' k))
    (pcs : ∀ p ∈ ps', h'.get? p.1 = some (pieceObj p) ∧ g.get? p.1 = none ∧ p.1 ≠ L) : LawS g L dn n N D4 xw xd lv news h₀ m col ps' sz' h' gs :=
  x.go (.ofXD k) (x.fr.ns.at' fun o e => k _ o (Ne.symm x.ap.xL) (Ne.symm x.ap.dL) e) (let ⟨rv, a, b⟩ := x.ring; ⟨rv, a.at fun o e => k _ o (Ne.symm x.ap.xr) (Ne.symm x.ap.dr) e, x.ringN (.ofXD k) b⟩) hw hs pcs (x.tabAt (.ofXD k) fun _ e => k _ _ (Ne.symm x.ap.xt) (Ne.symm x.ap.dt) e) x.bare
theorem LawS.win' (x : LawS g L dn n N D4 xw xd lv news h₀ m col ps sz h gs) (k : ∀ b o, b ≠ xw → h.get? b = some o → h'.get? b = some o) (hw : ∃ ep, h'.get? xw = some (winObj xd (piecesIts ps') ep))
    (pcs : ∀ p ∈ ps', h'.get? p.1 = some (pieceObj p) ∧ g.get? p.1 = none ∧ p.1 ≠ L) : LawS g L dn n N D4 xw xd lv news h₀ m col ps' sz h' gs :=
  x.winsz (fun b o n _ e => k b o n e) hw (let ⟨hh, kt, tz, q, a⟩ := x.size; ⟨hh, kt, tz, q, k _ _ (Ne.symm x.ap.xe) a⟩) pcs
theorem LawS.fresh (x : LawS g L dn n N D4 xw xd lv news h₀ m col ps sz h gs) {a : Addr} (e : h.get? a = none) : g.get? a = none ∧ a ≠ L := by
  refine ⟨?_, ?_⟩
  · cases q : g.get? a with
    | none => rfl
    | some o => rw [x.fr.keep _ _ q] at e; cases e
  · obtain ⟨oL, _, _, hL, _⟩ := x.fr.ns; exact ne_of_none_some' e hL
theorem LawS.pushed (x : LawS g L dn n N D4 xw xd lv news h₀ m col ps sz h gs) {p : Piece} {ep : Nat} (k : ∀ b o, b ≠ xw → h.get? b = some o → h'.get? b = some o) (hn : h.get? p.1 = none) (hw : h'.get? xw = some (winObj xd (piecesIts ps ++ [.ref p.1]) ep)) (hp : h'.get? p.1 = some (pieceObj p)) :
    LawS g L dn n N D4 xw xd lv news h₀ m col (ps ++ [p]) sz h' gs := by
  refine x.win' k ⟨ep, ?_⟩ fun q hq => ?_
  · rw [hw, show piecesIts (ps ++ [p]) = piecesIts ps ++ [.ref p.1] by simp]
  · rcases List.mem_append.mp hq with hq | hq
    · exact x.pcsN (.ofX k) q hq
    · obtain rfl := List.mem_singleton.mp hq
      exact ⟨hp, x.fresh hn⟩
theorem LawS.rebase (x : LawS g L dn n N D4 xw xd lv news h₀ m col ps sz h gs) : LawS g L dn n N D4 xw xd lv news h m col ps sz h gs :=
  { x with since := fun _ _ _ _ _ _ _ e => e }
theorem LawS.mu (x : LawS g L dn n N D4 xw xd lv news h₀ m col ps sz h gs) : ∀ b o, b ∉ [L, xw, xd, D4, 62] → h₀.get? b = some o → h.get? b = some o := fun b o hb e => by
  simp only [List.mem_cons, List.not_mem_nil, or_false, not_or] at hb
  exact x.since b o hb.1 hb.2.1 hb.2.2.1 hb.2.2.2.1 hb.2.2.2.2 e
end
theorem range_at {M : Nat} {f : Nat → Int} {vs : List Value} {i : Nat} {v : Value} (hI : IntsAre vs ((List.range M).map f)) (hv : vs[i]? = some v) : i < M ∧ ∃ t, v = .int (f i) t := by
  have hl : vs.length = M := by rw [hI.length]; simp
  have hi : i < M := by rw [← hl]; exact (List.getElem?_eq_some_iff.mp hv).1
  obtain ⟨t, ht⟩ := hI.get i (f i) (by simp [hi])
  exact ⟨hi, t, Option.some.inj (hv.symm.trans ht)⟩
theorem first_bd (dn : List Int) {n : Nat} (h : 2 ≤ n) (i : Nat) : 0 ≤ firstAt dn n i ∧ firstAt dn n i < n := ⟨Int.fmod_nonneg_of_pos _ (by omega), Int.fmod_lt_of_pos _ (by omega)⟩
theorem pieces_push {ps : List Piece} {ks : List Int} {a : Addr} {k : Int} {t u : Tok} (h : PiecesAre ps ks) : PiecesAre (ps ++ [(a, (blanks k, t), (Str.ofString "", u))]) (ks ++ [k]) := by
  unfold PiecesAre at h ⊢
  rw [List.map_append, List.map_append, h]
  rfl
section
variable {g : Heap} {L : Addr} {dn : List Int} {n N : Nat} {D4 xw xd : Addr} {lv : List Value} {news : List (Addr × Obj)} {h₀ : Heap} {m m' : Str → Option Value} {col col' : Nat → UInt64 × UInt64 × UInt64} {ps ps' : List Piece} {sz sz' : Int} {h h' : Heap} {gs gs' : Array GenState}
theorem RingAt.but {rv : List Value} {I : Addr} {o : Obj} {T : String} (e : h.get? I = some o) (c : o.cls = .type T) (nT : T ≠ "tuple") (k : ∀ b o, b ≠ I → h.get? b = some o → h'.get? b = some o) (r : RingAt g h L N col rv) : RingAt g h' L N col rv :=
  ⟨r.1, fun i hi => let ⟨T', t, u, v, a, b, c', d⟩ := r.2 i hi; ⟨T', t, u, v, a, b, c', k _ _ (fun q => by rw [q, e] at d; cases d; exact nT (Value.type.inj c).symm) d⟩⟩
/-- only the iterator has moved -/
theorem LawS.iter (x : LawS g L dn n N D4 xw xd lv news h₀ m col ps sz h gs) {I : Addr} {o : Obj} {T : String} (e : h.get? I = some o) (c : o.cls = .type T) (nT : T ≠ "tuple" ∧ T ≠ "list" ∧ T ≠ "dict") (hg : g.get? I = none) (hn : ∀ p ∈ news, p.1 ≠ I) (hL : L ≠ I)
    (k : ∀ b o, b ≠ I → h.get? b = some o → h'.get? b = some o) : LawS g L dn n N D4 xw xd lv news h' m col ps sz h' gs where
  ap := x.ap
  fr := ⟨x.fr.ns.at' fun o e => k _ o hL e, fun b o' e' => k b o' (fun q => by rw [q, hg] at e'; cases e') (x.fr.keep b o' e'), x.fr.above⟩
  news := fun p hp => ⟨k _ _ (hn p hp) (x.news p hp).1, (x.news p hp).2⟩
  ring := let ⟨rv, a, b⟩ := x.ring; ⟨rv, a.at fun o' e' => k _ o' (fun q => by obtain ⟨o4, h4, c4, _⟩ := a; rw [q, e] at h4; cases h4; exact nT.2.1 (Value.type.inj (c.symm.trans c4))) e', b.but e c nT.1 k⟩
  looks := ⟨x.looks.1, fun i hi => let ⟨T', t, u, v, a, b, c', d⟩ := x.looks.2 i hi; ⟨T', t, u, v, a, b, c', k _ _ (fun q => by rw [q, e] at d; cases d; exact nT.1 (Value.type.inj c).symm) d⟩⟩
  win := let ⟨ep, a⟩ := x.win; ⟨ep, k _ _ (fun q => by rw [q, e] at a; cases a; cases c) a⟩
  size := let ⟨hh, kt, tz, q, a⟩ := x.size; ⟨hh, kt, tz, q, k _ _ (fun q => by rw [q, e] at a; cases a; exact nT.2.2 (Value.type.inj c).symm) a⟩
  pcs := fun p hp => ⟨k _ _ (fun q => by have := (x.pcs p hp).1; rw [q, e] at this; cases this; exact nT.1 (Value.type.inj c).symm) (x.pcs p hp).1, (x.pcs p hp).2⟩
  tab := x.tab.at fun b o' hb e' => k b o' (by
    obtain ⟨o6, e6⟩ := x.ap.g66
    obtain ⟨ps', _, ht⟩ := x.tab
    rcases hb with rfl | rfl
    · rintro rfl; rw [hg] at e6; cases e6
    · rintro rfl; have := ht.2; rw [e] at this; cases this; cases c) e'
  bare := x.bare
  since := fun _ _ _ _ _ _ _ e => e
end
theorem pieces_len {ps : List Piece} {ks : List Int} (h : PiecesAre ps ks) : ps.length = ks.length := by simpa using congrArg List.length h
theorem pieces_sum : ∀ {ps : List Piece} {ks : List Int}, PiecesAre ps ks → (∀ k ∈ ks, 0 ≤ k) → (ps.map pieceLen).sum = ks.sum := by
  intro ps
  induction ps with
  | nil => intro ks h _; cases ks with
    | nil => rfl
    | cons k ks => cases h
  | cons p ps ih =>
    intro ks h h0
    cases ks with
    | nil => cases h
    | cons k ks =>
      unfold PiecesAre at h
      rw [List.map_cons, List.map_cons] at h
      obtain ⟨h1, h2⟩ := List.cons.inj h
      rw [List.map_cons, List.sum_cons, List.sum_cons, ih (show PiecesAre ps ks from h2) fun k hk => h0 k (.tail _ hk)]
      have e1 : p.2.1.1 = blanks k := (Prod.mk.inj h1).1
      have e2 : p.2.2.1 = (⟨#[]⟩ : Str) := (Prod.mk.inj h1).2
      have := h0 k (.head _)
      unfold pieceLen
      rw [e1, e2]
      show ((Array.replicate k.toNat (32 : Nat)).size : Int) + ((#[] : Array Nat).size : Int) + _ = _
      simp; omega
theorem pieces_drop {ps : List Piece} {ks : List Int} (h : PiecesAre ps ks) (i : Nat) : PiecesAre (ps.drop i) (ks.drop i) := by
  unfold PiecesAre at h ⊢
  rw [List.map_drop, List.map_drop, h]
theorem pieces_take {ps : List Piece} {ks : List Int} (h : PiecesAre ps ks) (i : Nat) : PiecesAre (ps.take i) (ks.take i) := by
  unfold PiecesAre at h ⊢
  rw [List.map_take, List.map_take, h]
theorem pieces_short {ps : List Piece} {ks : List Int} (h : PiecesAre ps ks) (h1 : ∀ k ∈ ks, k < 20) (i : Nat) : (ps.getD i default).2.1.1.length < 1000 ∧ (ps.getD i default).2.2.1.length < 1000 := by
  by_cases hi : i < ps.length
  · have hk : i < ks.length := by rw [← pieces_len h]; exact hi
    have e : (ps.map fun p => (p.2.1.1, p.2.2.1))[i]? = (ks.map fun k => (blanks k, (⟨#[]⟩ : Str)))[i]? := by unfold PiecesAre at h; rw [h]
    rw [List.getElem?_map, List.getElem?_map, List.getElem?_eq_getElem hi, List.getElem?_eq_getElem hk] at e
    have e := Option.some.inj e
    have e1 : ps[i].2.1.1 = blanks ks[i] := (Prod.mk.inj e).1
    have e2 : ps[i].2.2.1 = (⟨#[]⟩ : Str) := (Prod.mk.inj e).2
    rw [List.getD_eq_getElem?_getD, List.getElem?_eq_getElem hi, Option.getD_some, e1, e2]
    have := h1 ks[i] (List.getElem_mem hk)
    refine ⟨?_, ?_⟩
    · show (Array.replicate ks[i].toNat (32 : Nat)).size < 1000
      simp; omega
    · show (#[] : Array Nat).size < 1000
      decide
  · rw [List.getD_eq_getElem?_getD, List.getElem?_eq_none (by omega)]
    exact ⟨by decide, by decide⟩
/-- stands in the context from the first loop on: only then do the markers below stop the walk -/
noncomputable def Phase : Prop := True
theorem stopP {P : Prop} (_ : Phase) (x : Stop P) : P := x
section
variable {prog : Program} {w : World} {A : Around} {E : Value → Shared → Prop} {s : Shared}
theorem newList0 {Q : Value → Shared → Prop} (h : Q (.ref s.heap.objs.size) { s with heap := s.heap.push (W.listOf ([] : List Value).toArray 0) }) : wpAny (model prog w) A (newList []) Q E s := by
  unfold newList
  exact wpAny_newObj_type h (by show 0 ≤ sizeLine; omega)
theorem cat_lists {l b : Addr} {vs ws : List Value} {Q : Value → Shared → Prop} (hl : s.heap.IsList l vs.toArray) (hb : s.heap.IsList b ws.toArray)
    (h : Q (.ref s.heap.objs.size) { s with heap := s.heap.push { cls := .type "list", data := .seq (vs ++ ws).toArray } }) (hsz : vs.length + ws.length ≤ 1000) : wpAny (model prog w) A (binaryOp .Add (.ref l) (.ref b)) Q E s := by
  obtain ⟨⟨c1, d1, e1, f1⟩, ho, hc, n, hd⟩ := id hl
  obtain ⟨⟨c2, d2, e2, f2⟩, ho2, hc2, n2, hd2⟩ := id hb
  dsimp only at hc hd hc2 hd2
  subst hc hd hc2 hd2
  refine concat_meets ⟨_, ho, rfl⟩ ⟨_, ho2, rfl⟩ noFill_list_add seq_list_add PySem.F.slot_list_add PySem.F.entry_list_add (PySem.F.args_list_add_2 _ _) (list_addW l b vs.toArray ws.toArray n n2 d1 d2 f1 f2 (by rw [sizeLine_eq]; simp; omega)) ⟨ho, ho2, ?_⟩
  rw [show vs.toArray ++ ws.toArray = (vs ++ ws).toArray by simp]
  exact h
end
/-- the dial of turn i -/
noncomputable def placeOf (wd N i : Nat) : Nat := if i < N - (wd - 1) then wd - 1 + i else i - (N - (wd - 1))
noncomputable def hueA (dn : List Int) (n d : Nat) : Int := lookHue (dn.getD (2 + d) 0) n
noncomputable def szAt (dn : List Int) (wd n i : Nat) : Int := if i = 0 then aheadOf dn wd n else 0
noncomputable def pressAt (dn : List Int) (wd N n i : Nat) (P : List Int) : Int :=
  if placeOf wd N i < wd - 1 then firstAt dn n (placeOf wd N i) else Int.fmod (-(hueA dn n (placeOf wd N i) + (szAt dn wd n i + (P.drop i).sum))) n
noncomputable def presses (dn : List Int) (wd N n : Nat) : Nat → List Int
  | 0 => (List.range (wd - 1)).map (firstAt dn n)
  | i + 1 => presses dn wd N n i ++ [pressAt dn wd N n i (presses dn wd N n i)]
noncomputable def stepsAt (dn : List Int) (wd N n i : Nat) : Int := szAt dn wd n i + ((presses dn wd N n (i + 1)).drop i).sum
noncomputable def turned (c : UInt64 × UInt64 × UInt64) (st n : Int) : UInt64 × UInt64 × UInt64 := hsvOf (Float64.add (rgbH c.1 c.2.1 c.2.2) (quo st n)) (rgbS c.1 c.2.1 c.2.2) (fmax3 c.1 c.2.1 c.2.2)
noncomputable def colAt (dn : List Int) (wd N n : Nat) : Nat → Nat → UInt64 × UInt64 × UInt64
  | 0 => fun i => colour (dn.getD (2 + i) 0) n
  | i + 1 => fun d => if d = placeOf wd N i then turned (colAt dn wd N n i (placeOf wd N i)) (stepsAt dn wd N n i) n else colAt dn wd N n i d
noncomputable def totAt (dn : List Int) (wd N n : Nat) : Nat → Int
  | 0 => 0
  | i + 1 => totAt dn wd N n i + (szAt dn wd n i + (((presses dn wd N n (i + 1)).drop i).take 1).sum)
theorem presses_len (dn : List Int) (wd N n i : Nat) : (presses dn wd N n i).length = wd - 1 + i := by
  induction i with
  | zero => simp [presses]
  | succ i ih => rw [presses, List.length_append, ih]; rfl
theorem pressAt_bd (dn : List Int) (wd N : Nat) {n : Nat} (h : 2 ≤ n) (i : Nat) (P : List Int) : 0 ≤ pressAt dn wd N n i P ∧ pressAt dn wd N n i P < n := by
  unfold pressAt
  split
  · exact first_bd dn h _
  · exact ⟨Int.fmod_nonneg_of_pos _ (by omega), Int.fmod_lt_of_pos _ (by omega)⟩
theorem presses_bd (dn : List Int) (wd N : Nat) {n : Nat} (h : 2 ≤ n) (i : Nat) : ∀ k ∈ presses dn wd N n i, 0 ≤ k ∧ k < n := by
  induction i with
  | zero =>
    intro k hk
    obtain ⟨j, _, rfl⟩ := List.mem_map.mp hk
    exact first_bd dn h j
  | succ i ih =>
    intro k hk
    rcases List.mem_append.mp hk with hk | hk
    · exact ih k hk
    · rw [List.mem_singleton.mp hk]; exact pressAt_bd dn wd N h i _
theorem presses_drop (dn : List Int) (wd N n i : Nat) : (presses dn wd N n (i + 1)).drop i = (presses dn wd N n i).drop i ++ [pressAt dn wd N n i (presses dn wd N n i)] := by
  rw [presses, List.drop_append_of_le_length (by rw [presses_len]; omega)]
theorem sum_bd {n : Nat} : ∀ {l : List Int}, (∀ k ∈ l, 0 ≤ k ∧ k < (n : Int)) → 0 ≤ l.sum ∧ l.sum ≤ l.length * ((n : Int) - 1)
  | [], _ => by simp
  | a :: l, h => by
    have := sum_bd (l := l) fun k hk => h k (.tail _ hk)
    have := h a (.head _)
    rw [List.sum_cons, List.length_cons, Int.natCast_add, Int.add_mul]
    omega
theorem ahead_bd (dn : List Int) (wd : Nat) {n : Nat} (h : 2 ≤ n) : 0 ≤ aheadOf dn wd n ∧ aheadOf dn wd n ≤ (n : Int) - 1 := by
  unfold aheadOf
  have h1 := Int.fmod_nonneg_of_pos ((dn.getD 1 0).fdiv ((n : Int) ^ (wd - 1))) (b := (n : Int) - 1) (by omega)
  have h2 := Int.fmod_lt_of_pos ((dn.getD 1 0).fdiv ((n : Int) ^ (wd - 1))) (b := (n : Int) - 1) (by omega)
  omega
theorem sz_bd (dn : List Int) (wd : Nat) {n : Nat} (h : 2 ≤ n) (i : Nat) : 0 ≤ szAt dn wd n i ∧ szAt dn wd n i ≤ (n : Int) - 1 := by
  unfold szAt
  split
  · exact ahead_bd dn wd h
  · omega
theorem win_bd (dn : List Int) (wd N : Nat) {n : Nat} (h : 2 ≤ n) (i : Nat) : 0 ≤ ((presses dn wd N n i).drop i).sum ∧ ((presses dn wd N n i).drop i).sum ≤ (wd - 1 : Nat) * ((n : Int) - 1) := by
  have := sum_bd (n := n) (l := (presses dn wd N n i).drop i) fun k hk => presses_bd dn wd N h i k (List.mem_of_mem_drop hk)
  rw [List.length_drop, presses_len, Nat.add_sub_cancel] at this
  exact this
theorem steps_bd (dn : List Int) {wd : Nat} (N : Nat) {n : Nat} (h : 2 ≤ n) (hw : 1 ≤ wd) (hw4 : wd ≤ 4) (i : Nat) : 0 ≤ stepsAt dn wd N n i ∧ stepsAt dn wd N n i ≤ 5 * ((n : Int) - 1) := by
  have h1 := sum_bd (n := n) (l := (presses dn wd N n (i + 1)).drop i) fun k hk => presses_bd dn wd N h (i + 1) k (List.mem_of_mem_drop hk)
  have h2 := sz_bd dn wd h i
  rw [List.length_drop, presses_len, show wd - 1 + (i + 1) - i = wd by omega] at h1
  have h3 : (wd : Int) * ((n : Int) - 1) ≤ 4 * ((n : Int) - 1) := Int.mul_le_mul_of_nonneg_right (by omega) (by omega)
  unfold stepsAt
  omega
theorem place_lt {wd N i : Nat} (hw : 1 ≤ wd) (hN : wd ≤ N) (hi : i < N) : placeOf wd N i < N := by
  unfold placeOf; split <;> omega
theorem place_inj {wd N i j : Nat} (hw : 1 ≤ wd) (hN : wd ≤ N) (hi : i < N) (hj : j < N) (e : placeOf wd N i = placeOf wd N j) : i = j := by
  unfold placeOf at e; split at e <;> split at e <;> omega
theorem colAt_fresh (dn : List Int) {wd N : Nat} (n : Nat) (hw : 1 ≤ wd) (hN : wd ≤ N) (i : Nat) : ∀ j, i ≤ j → j < N → colAt dn wd N n i (placeOf wd N j) = colour (dn.getD (2 + placeOf wd N j) 0) n := by
  induction i with
  | zero => intro j _ _; rfl
  | succ i ih =>
    intro j hij hj
    show (if placeOf wd N j = placeOf wd N i then _ else _) = _
    rw [if_neg fun e => by have := place_inj hw hN hj (by omega) e; omega]
    exact ih j (by omega) hj
theorem colAt_done (dn : List Int) {wd N : Nat} (n : Nat) (hw : 1 ≤ wd) (hN : wd ≤ N) (i : Nat) : i ≤ N → ∀ j, j < i → colAt dn wd N n i (placeOf wd N j) = turned (colour (dn.getD (2 + placeOf wd N j) 0) n) (stepsAt dn wd N n j) n := by
  induction i with
  | zero => intro _ j h; cases h
  | succ i ih =>
    intro hi j hj
    show (if placeOf wd N j = placeOf wd N i then _ else _) = _
    by_cases e : j = i
    · subst e
      rw [if_pos rfl, colAt_fresh dn n hw hN j j (Nat.le_refl _) hi]
    · rw [if_neg fun e' => e (place_inj hw hN (by omega) hi e')]
      exact ih (by omega) j (by omega)
/-- what is asked of a colour of hue k on a wheel of n, share s, value v -/
noncomputable def Good (n : Nat) (k : Int) (s v : UInt64) (c : UInt64 × UInt64 × UInt64) : Prop :=
  RgbOk c.1 c.2.1 c.2.2 ∧ rgbS c.1 c.2.1 c.2.2 = s ∧ fmax3 c.1 c.2.1 c.2.2 = v ∧ Float64.isFinite (hueX (rgbH c.1 c.2.1 c.2.2) n) = true ∧ hueF (rgbH c.1 c.2.1 c.2.2) n = k
theorem places_of {wd N : Nat} {a b : Array Value} (hw : 1 ≤ wd) (hN : wd ≤ N) (ha : ItemsOf (fun i (v : Value) => ∃ t, v = .int ((wd : Int) - 1 + i * 1) t) a (N - (wd - 1))) (hb : ItemsOf (fun i (v : Value) => ∃ t, v = .int (0 + i * 1) t) b (wd - 1)) :
    (a.toList ++ b.toList).length = N ∧ ∀ (i : Nat) (v : Value), (a.toList ++ b.toList)[i]? = some v → ∃ t, v = .int ((placeOf wd N i : Nat) : Int) t := by
  have e1 : a.toList.length = N - (wd - 1) := by rw [Array.length_toList, ha.1]
  have e2 : b.toList.length = wd - 1 := by rw [Array.length_toList, hb.1]
  refine ⟨by rw [List.length_append, e1, e2]; omega, fun i v h => ?_⟩
  unfold placeOf
  by_cases hi : i < N - (wd - 1)
  · rw [List.getElem?_append_left (by rw [e1]; exact hi), Array.getElem?_toList] at h
    obtain ⟨t, rfl⟩ := ha.2 i v h
    rw [if_pos hi]
    exact ⟨t, by rw [show ((wd - 1 + i : Nat) : Int) = (wd : Int) - 1 + i * 1 by omega]⟩
  · rw [List.getElem?_append_right (by rw [e1]; omega), Array.getElem?_toList, e1] at h
    obtain ⟨t, rfl⟩ := hb.2 _ v h
    rw [if_neg hi]
    exact ⟨t, by rw [show (0 : Int) + ((i - (N - (wd - 1)) : Nat) : Int) * 1 = ((i - (N - (wd - 1)) : Nat) : Int) by omega]⟩
section
variable {prog : Program} {w : World} {A : Around} {E : Value → Shared → Prop} {s : Shared}
theorem range1K {n : Int} {t : Tok} {Q : Value → Shared → Prop} (h : ∀ r h' tk t u v, (∀ b o, s.heap.get? b = some o → h'.get? b = some o) → IsRange h' r 0 n 1 t u v → Q (.ref r) { s with heap := h', toks := tk }) :
    wpAny (model prog w) A (call (.type "range") [.int n t]) Q E s :=
  call_range_1 (h _ _ _ _ _ _ (fun _ _ e => Heap.get?_push_of_some _ e) (IsRange.new _ _ _ _ _ _ _))
theorem listK {Q : Value → Shared → Prop} {r : Addr} {a b : Int} {t u v : Tok} {n : Nat} (hh : A.handled = none) (hr : IsRange s.heap r a b 1 t u v) (hsmall : Builtin.Range.small a b 1 = true) (hn : Builtin.Range.rangeSize a b 1 = n) (hlen : n ≤ 2 ^ 24)
    (hQ : ∀ l h' tk acc', (∀ b o, s.heap.get? b = some o → h'.get? b = some o) → h'.IsList l acc'.toList.toArray → ItemsOf (fun i (v : Value) => ∃ t, v = .int (a + i * 1) t) acc' n → Q (.ref l) { s with heap := h', toks := tk }) :
    wpAny (model prog w) A (call (.type "list") [.ref r]) Q E s :=
  call_list_range hh hr hsmall hn hlen fun h' tk acc' _ k e i => hQ _ h' tk acc' k ⟨_, e, rfl, _, rfl⟩ i
theorem catK {l b : Addr} {vs ws : List Value} {Q : Value → Shared → Prop} (hl : s.heap.IsList l vs.toArray) (hb : s.heap.IsList b ws.toArray) (hsz : vs.length + ws.length ≤ 1000)
    (h : ∀ r h', s.heap.get? r = none → (∀ b o, s.heap.get? b = some o → h'.get? b = some o) → h'.IsList r (vs ++ ws).toArray → Q (.ref r) { s with heap := h' }) : wpAny (model prog w) A (binaryOp .Add (.ref l) (.ref b)) Q E s :=
  cat_lists hl hb (h _ _ (get_size_none _) (fun _ _ e => Heap.get?_push_of_some _ e) ⟨_, Heap.get?_push_size _ rfl, rfl, _, rfl⟩) hsz
end
/-- n is reckoned once, then handed on -/
noncomputable def force {α : Type} (n : Nat) (f : Nat → α) : α := Nat.rec (motive := fun _ => α) (f 0) (fun m _ => f (Nat.succ m)) n
theorem force_eq {α : Type} (n : Nat) (f : Nat → α) : force n f = f n := by cases n <;> rfl
theorem p52 : (2 : Nat) ^ 52 = 4503599627370496 := by decide
theorem p63 : (2 : Nat) ^ 63 = 9223372036854775808 := by decide
theorem nb {a b : Nat} (h : a ≠ b) : Nat.beq a b = false := by
  cases e : Nat.beq a b with
  | false => rfl
  | true => exact absurd (Nat.eq_of_beq_eq_true e) h
theorem nbT {a b : Nat} (h : a = b) : Nat.beq a b = true := by subst h; exact Nat.beq_refl a
theorem nlF {a b : Nat} (h : ¬ a ≤ b) : Nat.ble a b = false := by
  cases e : Nat.ble a b with
  | false => rfl
  | true => exact absurd (Nat.le_of_ble_eq_true e) h
theorem nlT {a b : Nat} (h : a ≤ b) : Nat.ble a b = true := Nat.ble_eq_true_of_le h
theorem nbE (a b : Nat) : Nat.beq a b = (a == b) := by
  by_cases h : a = b
  · rw [nbT h]; simp [h]
  · rw [nb h]; simp [h]
noncomputable def exN (x : Nat) : Nat := Nat.mod (Nat.div x 4503599627370496) 2048
noncomputable def finN (x : Nat) : Bool := !(Nat.beq (exN x) 2047)
noncomputable def dS (x : Nat) : Bool := Nat.beq (Nat.div x 9223372036854775808) 1
noncomputable def dM (x : Nat) : Nat := bif Nat.beq (exN x) 0 then Nat.mod x 4503599627370496 else Nat.add 4503599627370496 (Nat.mod x 4503599627370496)
noncomputable def dE (x : Nat) : Nat := bif Nat.beq (exN x) 0 then 1 else exN x
theorem exN_eq (x : Nat) : exN x = x / 4503599627370496 % 2048 := rfl
theorem dS_eq (x : Nat) : dS x = (x / 9223372036854775808 == 1) := nbE _ _
theorem dM_eq (x : Nat) : dM x = bif Nat.beq (exN x) 0 then x % 4503599627370496 else 4503599627370496 + x % 4503599627370496 := rfl
theorem decode_fin {x : UInt64} (h : finN x.toNat = true) : Float64.decode x = .fin (dS x.toNat) (dM x.toNat) ((dE x.toNat : Int) - 1075) := by
  unfold finN at h
  unfold Float64.decode
  simp only [p52, p63]
  rw [dS_eq, dM_eq]
  unfold dE
  rw [← exN_eq]
  generalize exN x.toNat = e at *
  have h1 : e ≠ 2047 := by rintro rfl; exact absurd h (by decide)
  have h1' : (e == 2047) = false := by simpa using h1
  simp only [h1', Bool.false_eq_true, if_false]
  by_cases h0 : e = 0
  · subst h0; simp
  · rw [nb h0]
    have h2 : (e == 0) = false := by simpa using h0
    simp only [h2, cond_false, Bool.false_eq_true, if_false]
noncomputable def halfN (n d : Nat) : Nat := bif Nat.ble (Nat.succ d) (Nat.mul 2 (Nat.mod n d)) then Nat.succ (Nat.div n d) else bif Nat.beq (Nat.mul 2 (Nat.mod n d)) d then Nat.add (Nat.div n d) (Nat.mod (Nat.div n d) 2) else Nat.div n d
theorem halfN_eq (n d : Nat) : halfN n d = bif Nat.ble (d + 1) (2 * (n % d)) then n / d + 1 else bif Nat.beq (2 * (n % d)) d then n / d + n / d % 2 else n / d := rfl
theorem half_eq (n d : Nat) : Float64.halfEven n d = halfN n d := by
  rw [halfN_eq]
  unfold Float64.halfEven
  dsimp only
  by_cases h1 : 2 * (n % d) > d
  · rw [nlT h1]; simp [h1]
  · rw [nlF h1]
    by_cases h2 : 2 * (n % d) = d
    · have h3 : n / d % 2 = 0 ∨ n / d % 2 = 1 := by lia
      rw [nbT h2]
      rcases h3 with h3 | h3 <;> simp [h2, h3]
    · rw [nb h2]
      simp [h1, h2]
noncomputable def ltN (n d p q : Nat) : Bool := Nat.ble (Nat.mul d (Nat.pow 2 (Nat.sub p q))) (Nat.mul n (Nat.pow 2 (Nat.sub q p)))
theorem ltN_eq (n d p q : Nat) : ltN n d p q = Nat.ble (d * 2 ^ (p - q)) (n * 2 ^ (q - p)) := rfl
noncomputable def zN (n d p q : Nat) : Nat := Nat.sub (bif ltN n d p q then Nat.add p 1022 else Nat.add p 1021) q
theorem zN_eq (n d p q : Nat) : zN n d p q = (bif ltN n d p q then p + 1022 else p + 1021) - q := rfl
noncomputable def fixN (n d z : Nat) : Nat := Nat.add (Nat.mul z 4503599627370496) (halfN (Nat.mul n (Nat.pow 2 (Nat.sub 1074 z))) (Nat.mul d (Nat.pow 2 (Nat.sub z 1074))))
theorem fixN_eq (n d z : Nat) : fixN n d z = z * 4503599627370496 + halfN (n * 2 ^ (1074 - z)) (d * 2 ^ (z - 1074)) := rfl
noncomputable def capN (r : Nat) : Nat := bif Nat.ble 9218868437227405312 r then 9218868437227405312 else r
theorem capN_eq (r : Nat) : capN r = min 9218868437227405312 r := by
  unfold capN
  by_cases h : 9218868437227405312 ≤ r
  · rw [nlT h, cond_true]; lia
  · rw [nlF h, cond_false]; lia
theorem infMag_eq : Float64.infMag = 9218868437227405312 := by decide
theorem log2_of {n k : Nat} (h1 : 2 ^ k ≤ n) (h2 : n < 2 ^ (k + 1)) : Nat.log2 n = k :=
  (Nat.log2_eq_iff (by have := Nat.two_pow_pos k; lia)).mpr ⟨h1, h2⟩
/-- log2 below 2 ^ (2 * p), out of one below 2 ^ p -/
theorem lg_step {p : Nat} {rest : Nat → Nat} (h : ∀ m, m < 2 ^ p → rest m = Nat.log2 m) {n : Nat} (hn : n < 2 ^ (2 * p)) : (bif Nat.ble (2 ^ p) n then p + rest (n / 2 ^ p) else rest n) = Nat.log2 n := by
  by_cases hp : 2 ^ p ≤ n
  · rw [nlT hp, cond_true]
    have hpos := Nat.two_pow_pos p
    have hlt : n / 2 ^ p < 2 ^ p := by
      rw [Nat.div_lt_iff_lt_mul hpos, ← Nat.pow_add, show p + p = 2 * p by lia]; exact hn
    rw [h _ hlt]
    have hne : n / 2 ^ p ≠ 0 := by
      have := (Nat.le_div_iff_mul_le hpos (x := 1) (y := n)).mpr (by lia)
      lia
    obtain ⟨a, b⟩ := (Nat.log2_eq_iff hne).mp rfl
    refine (log2_of ?_ ?_).symm
    · rw [Nat.pow_add, Nat.mul_comm]; exact (Nat.le_div_iff_mul_le hpos).mp a
    · rw [show p + (n / 2 ^ p).log2 + 1 = ((n / 2 ^ p).log2 + 1) + p by lia, Nat.pow_add]
      exact (Nat.div_lt_iff_lt_mul hpos).mp b
  · rw [nlF hp, cond_false, h n (by lia)]
noncomputable def lg0 (n : Nat) : Nat := bif Nat.ble 2 n then 1 else 0
noncomputable def lg1 (n : Nat) : Nat := bif Nat.ble 4 n then Nat.add 2 (force (Nat.div n 4) lg0) else lg0 n
noncomputable def lg2 (n : Nat) : Nat := bif Nat.ble 16 n then Nat.add 4 (force (Nat.div n 16) lg1) else lg1 n
noncomputable def lg3 (n : Nat) : Nat := bif Nat.ble 256 n then Nat.add 8 (force (Nat.div n 256) lg2) else lg2 n
noncomputable def lg4 (n : Nat) : Nat := bif Nat.ble 65536 n then Nat.add 16 (force (Nat.div n 65536) lg3) else lg3 n
noncomputable def lg5 (n : Nat) : Nat := bif Nat.ble 4294967296 n then Nat.add 32 (force (Nat.div n 4294967296) lg4) else lg4 n
noncomputable def lg6 (n : Nat) : Nat := bif Nat.ble 18446744073709551616 n then Nat.add 64 (force (Nat.div n 18446744073709551616) lg5) else lg5 n
noncomputable def lg7 (n : Nat) : Nat := bif Nat.ble (Nat.pow 2 128) n then Nat.add 128 (force (Nat.div n (Nat.pow 2 128)) lg6) else lg6 n
noncomputable def lg8 (n : Nat) : Nat := bif Nat.ble (Nat.pow 2 256) n then Nat.add 256 (force (Nat.div n (Nat.pow 2 256)) lg7) else lg7 n
noncomputable def lg9 (n : Nat) : Nat := bif Nat.ble (Nat.pow 2 512) n then Nat.add 512 (force (Nat.div n (Nat.pow 2 512)) lg8) else lg8 n
noncomputable def lg10 (n : Nat) : Nat := bif Nat.ble (Nat.pow 2 1024) n then Nat.add 1024 (force (Nat.div n (Nat.pow 2 1024)) lg9) else lg9 n
noncomputable def lgN (n : Nat) : Nat := bif Nat.ble (Nat.pow 2 128) n then (bif Nat.ble (Nat.pow 2 2048) n then Nat.log2 n else lg10 n) else lg6 n
theorem lg0_eq : ∀ n, n < 2 ^ 2 → lg0 n = Nat.log2 n := by decide
theorem lg1_eq : ∀ n, n < 2 ^ 4 → lg1 n = Nat.log2 n := fun n hn => by
  unfold lg1
  rw [force_eq]
  exact lg_step (p := 2) (rest := lg0) lg0_eq hn
theorem lg2_eq : ∀ n, n < 2 ^ 8 → lg2 n = Nat.log2 n := fun n hn => by
  unfold lg2
  rw [force_eq]
  exact lg_step (p := 4) (rest := lg1) lg1_eq hn
theorem lg3_eq : ∀ n, n < 2 ^ 16 → lg3 n = Nat.log2 n := fun n hn => by
  unfold lg3
  rw [force_eq]
  exact lg_step (p := 8) (rest := lg2) lg2_eq hn
theorem lg4_eq : ∀ n, n < 2 ^ 32 → lg4 n = Nat.log2 n := fun n hn => by
  unfold lg4
  rw [force_eq]
  exact lg_step (p := 16) (rest := lg3) lg3_eq hn
theorem lg5_eq : ∀ n, n < 2 ^ 64 → lg5 n = Nat.log2 n := fun n hn => by
  unfold lg5
  rw [force_eq]
  exact lg_step (p := 32) (rest := lg4) lg4_eq hn
theorem lg6_eq : ∀ n, n < 2 ^ 128 → lg6 n = Nat.log2 n := fun n hn => by
  unfold lg6
  rw [force_eq]
  exact lg_step (p := 64) (rest := lg5) lg5_eq hn
theorem lg7_eq : ∀ n, n < 2 ^ 256 → lg7 n = Nat.log2 n := fun n hn => by
  unfold lg7
  rw [force_eq]
  exact lg_step (p := 128) (rest := lg6) lg6_eq hn
theorem lg8_eq : ∀ n, n < 2 ^ 512 → lg8 n = Nat.log2 n := fun n hn => by
  unfold lg8
  rw [force_eq]
  exact lg_step (p := 256) (rest := lg7) lg7_eq hn
theorem lg9_eq : ∀ n, n < 2 ^ 1024 → lg9 n = Nat.log2 n := fun n hn => by
  unfold lg9
  rw [force_eq]
  exact lg_step (p := 512) (rest := lg8) lg8_eq hn
theorem lg10_eq : ∀ n, n < 2 ^ 2048 → lg10 n = Nat.log2 n := fun n hn => by
  unfold lg10
  rw [force_eq]
  exact lg_step (p := 1024) (rest := lg9) lg9_eq hn
theorem lgN_eq (n : Nat) : lgN n = Nat.log2 n := by
  unfold lgN
  by_cases h : 2 ^ 128 ≤ n
  · rw [show Nat.ble (Nat.pow 2 128) n = true from nlT h, cond_true]
    by_cases h2 : 2 ^ 2048 ≤ n
    · rw [show Nat.ble (Nat.pow 2 2048) n = true from nlT h2, cond_true]
    · rw [show Nat.ble (Nat.pow 2 2048) n = false from nlF h2, cond_false]
      exact lg10_eq n (Nat.lt_of_not_le h2)
  · rw [show Nat.ble (Nat.pow 2 128) n = false from nlF h, cond_false]
    exact lg6_eq n (Nat.lt_of_not_le h)
noncomputable def roundN (n d : Nat) : Nat := force n fun n => force d fun d => bif Nat.beq n 0 then 0 else force (lgN n) fun p => force (lgN d) fun q => force (zN n d p q) fun z => capN (fixN n d z)
theorem roundN_eq (n d : Nat) : roundN n d = bif Nat.beq n 0 then 0 else capN (fixN n d (zN n d (lgN n) (lgN d))) := by
  unfold roundN
  simp only [force_eq]
theorem shift_a (n d p q : Nat) : Float64.shift n d (-((p : Int) - (q : Int))) = (n * 2 ^ (q - p), d * 2 ^ (p - q)) := by
  unfold Float64.shift
  by_cases h : p ≤ q
  · rw [if_pos (by lia), show (-((p : Int) - (q : Int))).toNat = q - p by lia, show p - q = 0 by lia]; simp
  · rw [if_neg (by lia), show (-(-((p : Int) - (q : Int)))).toNat = p - q by lia, show q - p = 0 by lia]; simp
theorem toNat_z (z : Nat) : ((z : Int) - (1074 : Nat) + 1074).toNat = z := by lia

noncomputable def tailF (M c : Nat) (l : Int) (ab : Nat × Nat) (n d : Nat) : Nat :=
  let e := max (if ab.1 ≥ ab.2 then l - 52 else l - 53) (-1074)
  let x := Float64.shift n d (-e)
  min M ((e + 1074).toNat * c + Float64.halfEven x.1 x.2)
theorem rm_unf (n d : Nat) (h : (n == 0) = false) : Float64.roundMag n d = tailF Float64.infMag (2 ^ 52) ((n.log2 : Int) - (d.log2 : Int)) (Float64.shift n d (-((n.log2 : Int) - (d.log2 : Int)))) n d := by
  delta Float64.roundMag tailF
  rw [h]
  generalize Float64.shift = sh
  generalize Float64.halfEven = he
  generalize Float64.infMag = M
  generalize Nat.log2 n = p
  generalize Nat.log2 d = q
  generalize (-1074 : Int) = e0
  generalize (1074 : Int) = e1
  dsimp only
  rw [if_neg (by decide)]
theorem tail_eq (M c n d p q : Nat) : tailF M c ((p : Int) - (q : Int)) (n * 2 ^ (q - p), d * 2 ^ (p - q)) n d = min M (zN n d p q * c + halfN (n * 2 ^ (1074 - zN n d p q)) (d * 2 ^ (zN n d p q - 1074))) := by
  have hz : max (if n * 2 ^ (q - p) ≥ d * 2 ^ (p - q) then (p : Int) - (q : Int) - 52 else (p : Int) - (q : Int) - 53) (-1074) = ((zN n d p q : Nat) : Int) - (1074 : Nat) := by
    rw [zN_eq, ltN_eq]
    by_cases h : n * 2 ^ (q - p) ≥ d * 2 ^ (p - q)
    · rw [if_pos h, nlT h, cond_true]
      lia
    · rw [if_neg h, nlF h, cond_false]
      lia
  unfold tailF
  dsimp only
  rw [hz]
  generalize zN n d p q = z
  rw [shift_a, toNat_z, half_eq]
theorem round_eq (n d : Nat) : Float64.roundMag n d = roundN n d := by
  rw [roundN_eq]
  by_cases h0 : n = 0
  · subst h0
    rw [nbT rfl]
    rfl
  rw [nb h0, lgN_eq, lgN_eq, rm_unf n d (by simpa using h0), shift_a, tail_eq, cond_false, capN_eq, fixN_eq, infMag_eq, p52]
noncomputable def packN (s : Bool) (mag : Nat) : UInt64 := (bif s then Nat.add 9223372036854775808 mag else mag).toUInt64
theorem pack_eq (s : Bool) (m : Nat) : Float64.pack s m = packN s m := by
  unfold Float64.pack packN
  rw [p63]
  cases s
  · simp
  · rfl
theorem ofFrac_eq (s : Bool) (n d : Nat) : Float64.ofFrac s n d = packN s (roundN n d) := by
  unfold Float64.ofFrac
  rw [pack_eq, round_eq]
/-- a number m * 2 ^ (G - B) -/
noncomputable def binN (s : Bool) (m G B : Nat) : UInt64 := packN s (roundN (Nat.mul m (Nat.pow 2 (Nat.sub G B))) (Nat.pow 2 (Nat.sub B G)))
theorem ofBin_eq (s : Bool) (m G B : Nat) : Float64.ofBin s m ((G : Int) - (B : Int)) = binN s m G B := by
  unfold Float64.ofBin
  have h := shift_a m 1 B G
  rw [show -((B : Int) - (G : Int)) = (G : Int) - B by lia] at h
  rw [h]
  show Float64.ofFrac s (m * 2 ^ (G - B)) (1 * 2 ^ (B - G)) = _
  rw [Nat.one_mul, ofFrac_eq]
  rfl
noncomputable def minN (a b : Nat) : Nat := bif Nat.ble a b then a else b
theorem minN_eq (a b : Nat) : minN a b = min a b := by
  unfold minN
  by_cases h : a ≤ b
  · rw [nlT h, cond_true, Nat.min_eq_left h]
  · rw [nlF h, cond_false, Nat.min_eq_right (by lia)]
noncomputable def addC (a b : Bool) (P Q G : Nat) : UInt64 :=
  force P fun P => force Q fun Q => force G fun G => bif Bool.xor a b then
    (bif Nat.beq P Q then packN false 0 else bif Nat.ble Q P then binN a (Nat.sub P Q) G 1075 else binN b (Nat.sub Q P) G 1075)
  else bif Nat.beq (Nat.add P Q) 0 then packN a 0 else binN a (Nat.add P Q) G 1075
noncomputable def addF (x y : UInt64) : UInt64 := force x.toNat fun u => force y.toNat fun v =>
  bif Bool.and (finN u) (finN v) then
    addC (dS u) (dS v) (Nat.mul (dM u) (Nat.pow 2 (Nat.sub (dE u) (minN (dE u) (dE v))))) (Nat.mul (dM v) (Nat.pow 2 (Nat.sub (dE v) (minN (dE u) (dE v))))) (minN (dE u) (dE v))
  else Float64.add x y
theorem addC_gen (Z : Bool → UInt64) (B : Bool → Nat → UInt64) (a b : Bool) (P Q : Nat) : (if Float64.sgn a P + Float64.sgn b Q == 0 then Z (a && b) else B (decide (Float64.sgn a P + Float64.sgn b Q < 0)) (Float64.sgn a P + Float64.sgn b Q).natAbs) =
    bif Bool.xor a b then (bif Nat.beq P Q then Z false else bif Nat.ble Q P then B a (Nat.sub P Q) else B b (Nat.sub Q P)) else bif Nat.beq (Nat.add P Q) 0 then Z a else B a (Nat.add P Q) := by
  unfold Float64.sgn
  cases a <;> cases b
  · show (if ((P : Int) + (Q : Int) == 0) = true then Z false else B (decide ((P : Int) + (Q : Int) < 0)) ((P : Int) + (Q : Int)).natAbs) = bif Nat.beq (Nat.add P Q) 0 then Z false else B false (Nat.add P Q)
    by_cases h : P + Q = 0
    · rw [show Nat.beq (Nat.add P Q) 0 = true from nbT h, if_pos (by rw [beq_iff_eq]; lia), cond_true]
    · rw [show Nat.beq (Nat.add P Q) 0 = false from nb h, if_neg (by rw [beq_iff_eq]; lia), cond_false, decide_eq_false (by lia), show ((P : Int) + (Q : Int)).natAbs = Nat.add P Q from by show _ = P + Q; lia]
  · show (if ((P : Int) + -(Q : Int) == 0) = true then Z false else B (decide ((P : Int) + -(Q : Int) < 0)) ((P : Int) + -(Q : Int)).natAbs) = bif Nat.beq P Q then Z false else bif Nat.ble Q P then B false (Nat.sub P Q) else B true (Nat.sub Q P)
    by_cases h : P = Q
    · rw [nbT h, if_pos (by rw [beq_iff_eq]; lia), cond_true]
    · rw [nb h, if_neg (by rw [beq_iff_eq]; lia), cond_false]
      by_cases h2 : Q ≤ P
      · rw [nlT h2, cond_true, decide_eq_false (by lia), show ((P : Int) + -(Q : Int)).natAbs = Nat.sub P Q from by show _ = P - Q; lia]
      · rw [nlF h2, cond_false, decide_eq_true (by lia), show ((P : Int) + -(Q : Int)).natAbs = Nat.sub Q P from by show _ = Q - P; lia]
  · show (if (-(P : Int) + (Q : Int) == 0) = true then Z false else B (decide (-(P : Int) + (Q : Int) < 0)) (-(P : Int) + (Q : Int)).natAbs) = bif Nat.beq P Q then Z false else bif Nat.ble Q P then B true (Nat.sub P Q) else B false (Nat.sub Q P)
    by_cases h : P = Q
    · rw [nbT h, if_pos (by rw [beq_iff_eq]; lia), cond_true]
    · rw [nb h, if_neg (by rw [beq_iff_eq]; lia), cond_false]
      by_cases h2 : Q ≤ P
      · rw [nlT h2, cond_true, decide_eq_true (by lia), show (-(P : Int) + (Q : Int)).natAbs = Nat.sub P Q from by show _ = P - Q; lia]
      · rw [nlF h2, cond_false, decide_eq_false (by lia), show (-(P : Int) + (Q : Int)).natAbs = Nat.sub Q P from by show _ = Q - P; lia]
  · show (if (-(P : Int) + -(Q : Int) == 0) = true then Z true else B (decide (-(P : Int) + -(Q : Int) < 0)) (-(P : Int) + -(Q : Int)).natAbs) = bif Nat.beq (Nat.add P Q) 0 then Z true else B true (Nat.add P Q)
    by_cases h : P + Q = 0
    · rw [show Nat.beq (Nat.add P Q) 0 = true from nbT h, if_pos (by rw [beq_iff_eq]; lia), cond_true]
    · rw [show Nat.beq (Nat.add P Q) 0 = false from nb h, if_neg (by rw [beq_iff_eq]; lia), cond_false, decide_eq_true (by lia), show (-(P : Int) + -(Q : Int)).natAbs = Nat.add P Q from by show _ = P + Q; lia]
theorem addC_eq (a b : Bool) (P Q G : Nat) : (if Float64.sgn a P + Float64.sgn b Q == 0 then Float64.zero (a && b) else Float64.ofBin (decide (Float64.sgn a P + Float64.sgn b Q < 0)) (Float64.sgn a P + Float64.sgn b Q).natAbs ((G : Int) - (1075 : Nat))) = addC a b P Q G := by
  unfold Float64.zero addC
  simp only [force_eq]
  rw [ofBin_eq, pack_eq]
  exact addC_gen (fun s => packN s 0) (fun s m => binN s m G 1075) a b P Q
theorem add_eq (x y : UInt64) : Float64.add x y = addF x y := by
  unfold addF
  simp only [force_eq]
  cases hx : finN x.toNat
  · rfl
  cases hy : finN y.toNat
  · rfl
  rw [show Bool.and true true = true from rfl, cond_true, ← addC_eq]
  unfold Float64.add
  rw [decode_fin hx, decode_fin hy]
  unfold Float64.align
  generalize dE x.toNat = e
  generalize dE y.toNat = f
  generalize dM x.toNat = m
  generalize dM y.toNat = k
  generalize dS x.toNat = a
  generalize dS y.toNat = b
  dsimp only
  rw [minN_eq]
  have h0 : min ((e : Int) - 1075) ((f : Int) - 1075) = ((min e f : Nat) : Int) - (1075 : Nat) := by lia
  rw [h0, show ((e : Int) - 1075 - (((min e f : Nat) : Int) - (1075 : Nat))).toNat = Nat.sub e (min e f) from by show _ = e - min e f; lia, show ((f : Int) - 1075 - (((min e f : Nat) : Int) - (1075 : Nat))).toNat = Nat.sub f (min e f) from by show _ = f - min e f; lia]
  rfl
noncomputable def mulF (x y : UInt64) : UInt64 := force x.toNat fun u => force y.toNat fun v =>
  bif Bool.and (finN u) (finN v) then binN (Bool.xor (dS u) (dS v)) (Nat.mul (dM u) (dM v)) (Nat.add (dE u) (dE v)) 2150
  else Float64.mul x y
theorem mul_eq (x y : UInt64) : Float64.mul x y = mulF x y := by
  unfold mulF
  simp only [force_eq]
  cases hx : finN x.toNat
  · rfl
  cases hy : finN y.toNat
  · rfl
  rw [show Bool.and true true = true from rfl, cond_true, ← ofBin_eq]
  unfold Float64.mul
  rw [decode_fin hx, decode_fin hy]
  generalize dE x.toNat = e
  generalize dE y.toNat = f
  generalize dM x.toNat = m
  generalize dM y.toNat = k
  generalize dS x.toNat = a
  generalize dS y.toNat = b
  dsimp only
  rw [show (e : Int) - 1075 + ((f : Int) - 1075) = ((Nat.add e f : Nat) : Int) - (2150 : Nat) from by show _ = ((e + f : Nat) : Int) - (2150 : Nat); lia]
  cases a <;> cases b <;> rfl
noncomputable def divF (x y : UInt64) : UInt64 := force x.toNat fun u => force y.toNat fun v =>
  bif Bool.and (Bool.and (finN u) (finN v)) (Bool.not (Nat.beq (dM v) 0)) then packN (Bool.xor (dS u) (dS v)) (roundN (Nat.mul (dM u) (Nat.pow 2 (Nat.sub (dE u) (dE v)))) (Nat.mul (dM v) (Nat.pow 2 (Nat.sub (dE v) (dE u)))))
  else Float64.div x y
theorem div_eq (x y : UInt64) : Float64.div x y = divF x y := by
  unfold divF
  simp only [force_eq]
  cases hx : finN x.toNat
  · rfl
  cases hy : finN y.toNat
  · rfl
  cases hz : Nat.beq (dM y.toNat) 0
  · rw [show Bool.and (Bool.and true true) (Bool.not false) = true from rfl, cond_true, ← ofFrac_eq]
    have hk : (dM y.toNat == 0) = false := by rw [← nbE]; exact hz
    unfold Float64.div
    rw [decode_fin hx, decode_fin hy]
    revert hk
    generalize dE x.toNat = e
    generalize dE y.toNat = f
    generalize dM x.toNat = m
    generalize dM y.toNat = k
    generalize dS x.toNat = a
    generalize dS y.toNat = b
    intro hk
    dsimp only
    have h := shift_a m k f e
    rw [show -((f : Int) - (e : Int)) = (e : Int) - 1075 - ((f : Int) - 1075) by lia] at h
    rw [hk, h]
    cases a <;> cases b <;> rfl
  · rfl
theorem sub_eq (x y : UInt64) : Float64.sub x y = addF x (Float64.neg y) := by
  unfold Float64.sub; exact add_eq _ _
noncomputable def ofIntF (i : Int) : UInt64 := packN (decide (i < 0)) (roundN i.natAbs 1)
theorem ofInt_eq (i : Int) : Float64.ofInt i = ofIntF i := by
  unfold Float64.ofInt ofIntF; exact ofFrac_eq _ _ _
noncomputable def rgbCF (mx mn c : UInt64) : UInt64 := divF (addF mx (Float64.neg c)) (addF mx (Float64.neg mn))
noncomputable def hueRaw (x y z mx mn : UInt64) : UInt64 := divF (if feq x mx = true then addF (rgbCF mx mn z) (Float64.neg (rgbCF mx mn y)) else if feq y mx = true then addF (addF 4611686018427387904 (rgbCF mx mn x)) (Float64.neg (rgbCF mx mn z)) else addF (addF 4616189618054758400 (rgbCF mx mn y)) (Float64.neg (rgbCF mx mn x))) six
noncomputable def rgbHF (x y z mx mn : UInt64) : UInt64 := force (hueRaw x y z mx mn).toNat fun r => (Float64.divmod r.toUInt64 4607182418800017408).snd
theorem rgbH_eq (x y z : UInt64) : rgbH x y z = rgbHF x y z (fmax3 x y z) (fmin3 x y z) := by
  unfold rgbH rgbHF
  rw [force_eq, show ((hueRaw x y z (fmax3 x y z) (fmin3 x y z)).toNat).toUInt64 = hueRaw x y z (fmax3 x y z) (fmin3 x y z) from UInt64.ofNat_toNat]
  unfold hueRaw rgbC rgbCF
  simp only [sub_eq, add_eq, div_eq]
noncomputable def rgbSF (mx mn : UInt64) : UInt64 := divF (addF mx (Float64.neg mn)) mx
theorem rgbS_eq (x y z : UInt64) : rgbS x y z = rgbSF (fmax3 x y z) (fmin3 x y z) := by
  unfold rgbS rgbSF
  simp only [sub_eq, div_eq]
noncomputable def hueXF (h : UInt64) (n : Int) : UInt64 := addF (mulF h (ofIntF n)) half_
theorem hueX_eq (h : UInt64) (n : Int) : hueX h n = hueXF h n := by
  unfold hueX hueXF
  simp only [add_eq, mul_eq, ofInt_eq]
noncomputable def c1 (s v : UInt64) : UInt64 := mulF v (addF fone (Float64.neg s))
noncomputable def cQ (f s v : UInt64) : UInt64 := mulF v (addF fone (Float64.neg (mulF s f)))
noncomputable def cT (f s v : UInt64) : UInt64 := mulF v (addF fone (Float64.neg (mulF s (addF fone (Float64.neg f)))))
/-- hsv_to_rgb from the sixth and the rest -/
noncomputable def hsvC (i : Int) (f s v : UInt64) : UInt64 × UInt64 × UInt64 :=
  if i = 0 then (v, cT f s v, c1 s v)
  else if i = 1 then (cQ f s v, v, c1 s v)
  else if i = 2 then (c1 s v, v, cT f s v)
  else if i = 3 then (c1 s v, cQ f s v, v)
  else if i = 4 then (cT f s v, c1 s v, v)
  else (v, c1 s v, cQ f s v)
noncomputable def sixF (h : UInt64) : UInt64 := mulF h six
noncomputable def restF (h : UInt64) : UInt64 := addF (sixF h) (Float64.neg (ofIntF (toI (sixF h))))
theorem hsvOf_eq (h s v : UInt64) : hsvOf h s v = hsvC (Int.fmod (toI (sixF h)) 6) (restF h) s v := by
  unfold hsvOf hsvC hsvI hsvT hsvP hsvQ hsvFr hsvI cT cQ c1 restF sixF
  simp only [sub_eq, mul_eq, ofInt_eq]
/-- a double, reckoned once -/
noncomputable def forceU {α : Type} (x : UInt64) (f : UInt64 → α) : α := force x.toNat fun n => f n.toUInt64
theorem forceU_eq {α : Type} (x : UInt64) (f : UInt64 → α) : forceU x f = f x := by
  unfold forceU
  rw [force_eq]
  congr 1
  exact UInt64.ofNat_toNat
noncomputable def goodB (n : Nat) (k : Int) (s v : UInt64) (mx mn h : UInt64) : Bool :=
  (feq mn mx == false) && (Float64.isZero mx == false) && forceU (addF mx (Float64.neg mn)) (fun d => Float64.isZero d == false) && forceU (rgbSF mx mn) (fun r => r == s) && (mx == v) && forceU (hueXF h n) fun g => Float64.isFinite g && (Int.fmod (toI g) n == k)
noncomputable def goodC (n : Nat) (k : Int) (s v : UInt64) (c : UInt64 × UInt64 × UInt64) : Bool :=
  forceU c.1 fun x => forceU c.2.1 fun y => forceU c.2.2 fun z => forceU (fmax3 x y z) fun mx => forceU (fmin3 x y z) fun mn => forceU (rgbHF x y z mx mn) fun h => goodB n k s v mx mn h
theorem good_of {n : Nat} {k : Int} {s v : UInt64} {c : UInt64 × UInt64 × UInt64} (h : goodC n k s v c = true) :
    RgbOk c.1 c.2.1 c.2.2 ∧ rgbS c.1 c.2.1 c.2.2 = s ∧ fmax3 c.1 c.2.1 c.2.2 = v ∧ Float64.isFinite (hueX (rgbH c.1 c.2.1 c.2.2) n) = true ∧ hueF (rgbH c.1 c.2.1 c.2.2) n = k := by
  unfold goodC goodB at h
  simp only [forceU_eq, Bool.and_eq_true, beq_iff_eq] at h
  obtain ⟨⟨⟨⟨⟨h1, h2⟩, h3⟩, h4⟩, h5⟩, h6, h7⟩ := h
  refine ⟨⟨h1, h2, by rw [sub_eq]; exact h3⟩, by rw [rgbS_eq]; exact h4, h5, by rw [rgbH_eq, hueX_eq]; exact h6, ?_⟩
  unfold hueF
  rw [rgbH_eq, hueX_eq]; exact h7
noncomputable def shareAt : Nat → UInt64 | 0 => quo 1 2 | _ => quo 2 2
noncomputable def valueAt : Nat → UInt64 | 0 => quo 1 4 | 1 => quo 2 4 | 2 => quo 3 4 | _ => quo 4 4
noncomputable def entsL : Nat → List (Nat × Nat × Nat)
  | 2 => [(0, 0, 0), (3, 0, 1)]
  | 3 => [(0, 0, 0), (2, 0, 1), (4, 0, 2)]
  | 4 => [(0, 0, 0), (1, 4602678819172646912, 1), (3, 0, 2), (4, 4602678819172646912, 3)]
  | 5 => [(0, 0, 0), (1, 4596373779694328224, 1), (2, 4600877379321698720, 2), (3, 4603579539098121008, 3), (4, 4605380978949069216, 4), (1, 4596373779694328192, 1), (2, 4600877379321698688, 2), (3, 4603579539098121024, 3), (1, 4596373779694328256, 1), (4, 4605380978949069184, 4), (1, 4596373779694328320, 1), (3, 4603579539098121016, 3), (2, 4600877379321698752, 2), (4, 4605380978949069200, 4), (3, 4603579539098120992, 3), (0, 4386506037058863104, 0), (0, 4391009636686233600, 0)]
  | 6 => [(0, 0, 0), (1, 0, 1), (2, 0, 2), (3, 0, 3), (4, 0, 4), (5, 0, 5), (1, 4607182418800017392, 2), (2, 4391009636686233600, 2), (0, 4607182418800017400, 1), (1, 4386506037058863104, 1), (0, 4607182418800017376, 1), (5, 4391009636686233600, 5)]
  | 7 => [(0, 0, 0), (0, 4605895676049340123, 1), (1, 4604608933298662838, 2), (2, 4603322190547985552, 3), (3, 4601392076421969624, 4), (4, 4598818590920615056, 5), (5, 4594314991293244544, 6), (0, 4605895676049340120, 1), (1, 4604608933298662848, 2), (3, 4601392076421969632, 4), (4, 4598818590920615040, 5), (0, 4605895676049340128, 1), (1, 4604608933298662832, 2), (2, 4603322190547985536, 3), (3, 4601392076421969664, 4), (0, 4605895676049340160, 1), (0, 4605895676049340124, 1), (2, 4603322190547985556, 3), (5, 4594314991293244576, 6), (3, 4601392076421969600, 4), (1, 4604608933298662880, 2), (2, 4603322190547985568, 3), (1, 4604608933298662840, 2), (4, 4598818590920615072, 5), (1, 4604608933298662836, 2), (5, 4607182418800017392, 0), (5, 4594314991293244416, 6), (3, 4601392076421969616, 4), (5, 4607182418800017376, 0), (0, 4605895676049340096, 1), (5, 4594314991293244672, 6)]
  | 8 => [(0, 0, 0), (0, 4604930618986332160, 1), (1, 4602678819172646912, 2), (2, 4598175219545276416, 3), (3, 0, 4), (3, 4604930618986332160, 5), (4, 4602678819172646912, 6), (5, 4598175219545276416, 7)]
  | 9 => [(0, 0, 0), (0, 4604180019048437077, 1), (1, 4599676419421066580, 2), (2, 0, 3), (2, 4604180019048437076, 4), (3, 4599676419421066584, 5), (4, 0, 6), (4, 4604180019048437080, 7), (5, 4599676419421066576, 8), (0, 4604180019048437080, 1), (1, 4599676419421066592, 2), (2, 4604180019048437072, 4), (3, 4599676419421066592, 5), (4, 4604180019048437072, 7), (5, 4599676419421066560, 8), (0, 4604180019048437088, 1), (2, 4604180019048437088, 4), (3, 4599676419421066560, 5), (4, 4604180019048437056, 7), (1, 4599676419421066624, 2), (0, 4604180019048437056, 1), (0, 4604180019048437076, 1), (3, 4599676419421066576, 5), (5, 4607182418800017400, 0), (4, 4604180019048437088, 7), (3, 4599676419421066624, 5), (1, 4599676419421066496, 2), (2, 4604180019048437056, 4), (0, 4604180019048437078, 1), (5, 4599676419421066592, 8), (1, 4599676419421066576, 2), (1, 4607182418800017404, 3), (0, 4604180019048437072, 1), (1, 4599676419421066560, 2), (5, 4607182418800017392, 0), (1, 4599676419421066584, 2), (3, 4607182418800017376, 6), (1, 4607182418800017392, 3), (5, 4599676419421066624, 8), (4, 4386506037058863104, 6), (0, 4391009636686233600, 0), (5, 4599676419421066496, 8), (3, 4607182418800017400, 6), (0, 4604180019048437120, 1), (2, 4391009636686233600, 3)]
  | _ => []
noncomputable def varsL : Nat → Nat → List Nat
  | 2, 0 => [0]
  | 2, 1 => [4602678819172646912]
  | 3, 0 => [0]
  | 3, 1 => [4599676419421066581]
  | 3, 2 => [4604180019048437077]
  | 4, 0 => [0]
  | 4, 1 => [4598175219545276416]
  | 4, 2 => [4602678819172646912]
  | 4, 3 => [4604930618986332160]
  | 5, 0 => [0]
  | 5, 1 => [4596373779694328219]
  | 5, 2 => [4600877379321698715]
  | 5, 3 => [4603579539098121011]
  | 5, 4 => [4605380978949069211]
  | 6, 0 => [0]
  | 6, 1 => [4595172819793696085]
  | 6, 2 => [4599676419421066581]
  | 6, 3 => [4602678819172646912]
  | 6, 4 => [4604180019048437077]
  | 6, 5 => [4605681218924227243]
  | 7, 0 => [0]
  | 7, 1 => [4594314991293244563, 4594314991293244562]
  | 7, 2 => [4598818590920615059, 4598818590920615057]
  | 7, 3 => [4601392076421969627]
  | 7, 4 => [4603322190547985555, 4603322190547985553]
  | 7, 5 => [4604608933298662839]
  | 7, 6 => [4605895676049340123]
  | 8, 0 => [0]
  | 8, 1 => [4593671619917905920]
  | 8, 2 => [4598175219545276416]
  | 8, 3 => [4600427019358961664]
  | 8, 4 => [4602678819172646912]
  | 8, 5 => [4603804719079489536]
  | 8, 6 => [4604930618986332160]
  | 8, 7 => [4606056518893174784]
  | 9, 0 => [0]
  | 9, 1 => [4592670820000712475, 4592670820000712477, 4592670820000712476]
  | 9, 2 => [4597174419628082971, 4597174419628082973]
  | 9, 3 => [4599676419421066581]
  | 9, 4 => [4601678019255453468]
  | 9, 5 => [4603179219131243635, 4603179219131243633]
  | 9, 6 => [4604180019048437077]
  | 9, 7 => [4605180818965630521]
  | 9, 8 => [4606181618882823964]
  | _, _ => []
noncomputable def tabOk (n : Nat) (e : Nat × Nat × Nat) : Bool := [0, 1].all fun s => [0, 1, 2, 3].all fun v => goodC n e.2.2 (shareAt s) (valueAt v) (hsvC e.1 e.2.1.toUInt64 (shareAt s) (valueAt v))
noncomputable def hOkB (h : UInt64) : Bool := Float64.isFinite (sixF h) && Nat.ble (toI (sixF h)).natAbs 1000
noncomputable def inE (n : Nat) (h : UInt64) (k : Nat) : Bool := (entsL n).any fun e => (((e.1 : Nat) : Int) == Int.fmod (toI (sixF h)) 6) && (e.2.1.toUInt64 == restF h) && (e.2.2 == k)
noncomputable def chk2 (n : Nat) : Bool := (List.range n).all fun a => hOkB (quo (a : Nat) n) && inE n (quo (a : Nat) n) a
noncomputable def chk3 (n : Nat) : Bool := (List.range n).all fun a => [0, 1].all fun s => [0, 1, 2, 3].all fun v => (varsL n a).any fun b => b.toUInt64 == (fun c : UInt64 × UInt64 × UInt64 => rgbHF c.1 c.2.1 c.2.2 (fmax3 c.1 c.2.1 c.2.2) (fmin3 c.1 c.2.1 c.2.2)) (hsvC (Int.fmod (toI (sixF (quo (a : Nat) n))) 6) (restF (quo (a : Nat) n)) (shareAt s) (valueAt v))
noncomputable def chk4 (n : Nat) : Bool := (List.range n).all fun a => (varsL n a).all fun b => (List.range (5 * (n - 1) + 1)).all fun st => hOkB (addF b.toUInt64 (quo (st : Nat) n)) && inE n (addF b.toUInt64 (quo (st : Nat) n)) ((a + st) % n)
theorem chk2_2 : chk2 2 = true := by decide +kernel
theorem chk3_2 : chk3 2 = true := by decide +kernel
theorem chk4_2 : chk4 2 = true := by decide +kernel
theorem tab_2 : (entsL 2).all (tabOk 2) = true := by decide +kernel
theorem chk2_3 : chk2 3 = true := by decide +kernel
theorem chk3_3 : chk3 3 = true := by decide +kernel
theorem chk4_3 : chk4 3 = true := by decide +kernel
theorem tab_3 : (entsL 3).all (tabOk 3) = true := by decide +kernel
theorem chk2_4 : chk2 4 = true := by decide +kernel
theorem chk3_4 : chk3 4 = true := by decide +kernel
theorem chk4_4 : chk4 4 = true := by decide +kernel
theorem tab_4 : (entsL 4).all (tabOk 4) = true := by decide +kernel
theorem chk2_5 : chk2 5 = true := by decide +kernel
theorem chk3_5 : chk3 5 = true := by decide +kernel
theorem chk4_5 : chk4 5 = true := by decide +kernel
theorem tab_5 : (entsL 5).all (tabOk 5) = true := by decide +kernel
theorem chk2_6 : chk2 6 = true := by decide +kernel
theorem chk3_6 : chk3 6 = true := by decide +kernel
theorem chk4_6 : chk4 6 = true := by decide +kernel
theorem tab_6 : (entsL 6).all (tabOk 6) = true := by decide +kernel
theorem chk2_7 : chk2 7 = true := by decide +kernel
theorem chk3_7 : chk3 7 = true := by decide +kernel
theorem chk4_7 : chk4 7 = true := by decide +kernel
theorem tab_7 : (entsL 7).all (tabOk 7) = true := by decide +kernel
theorem chk2_8 : chk2 8 = true := by decide +kernel
theorem chk3_8 : chk3 8 = true := by decide +kernel
theorem chk4_8 : chk4 8 = true := by decide +kernel
theorem tab_8 : (entsL 8).all (tabOk 8) = true := by decide +kernel
theorem chk2_9 : chk2 9 = true := by decide +kernel
theorem chk3_9 : chk3 9 = true := by decide +kernel
theorem chk4_9 : chk4 9 = true := by decide +kernel
theorem tab_9 : (entsL 9).all (tabOk 9) = true := by decide +kernel
theorem chk2_all {n : Nat} (h : 2 ≤ n) (h9 : n ≤ 9) : chk2 n = true := by
  have : n = 2 ∨ n = 3 ∨ n = 4 ∨ n = 5 ∨ n = 6 ∨ n = 7 ∨ n = 8 ∨ n = 9 := by lia
  rcases this with rfl | rfl | rfl | rfl | rfl | rfl | rfl | rfl
  · exact chk2_2
  · exact chk2_3
  · exact chk2_4
  · exact chk2_5
  · exact chk2_6
  · exact chk2_7
  · exact chk2_8
  · exact chk2_9
theorem chk3_all {n : Nat} (h : 2 ≤ n) (h9 : n ≤ 9) : chk3 n = true := by
  have : n = 2 ∨ n = 3 ∨ n = 4 ∨ n = 5 ∨ n = 6 ∨ n = 7 ∨ n = 8 ∨ n = 9 := by lia
  rcases this with rfl | rfl | rfl | rfl | rfl | rfl | rfl | rfl
  · exact chk3_2
  · exact chk3_3
  · exact chk3_4
  · exact chk3_5
  · exact chk3_6
  · exact chk3_7
  · exact chk3_8
  · exact chk3_9
theorem chk4_all {n : Nat} (h : 2 ≤ n) (h9 : n ≤ 9) : chk4 n = true := by
  have : n = 2 ∨ n = 3 ∨ n = 4 ∨ n = 5 ∨ n = 6 ∨ n = 7 ∨ n = 8 ∨ n = 9 := by lia
  rcases this with rfl | rfl | rfl | rfl | rfl | rfl | rfl | rfl
  · exact chk4_2
  · exact chk4_3
  · exact chk4_4
  · exact chk4_5
  · exact chk4_6
  · exact chk4_7
  · exact chk4_8
  · exact chk4_9
theorem tab_all {n : Nat} (h : 2 ≤ n) (h9 : n ≤ 9) : (entsL n).all (tabOk n) = true := by
  have : n = 2 ∨ n = 3 ∨ n = 4 ∨ n = 5 ∨ n = 6 ∨ n = 7 ∨ n = 8 ∨ n = 9 := by lia
  rcases this with rfl | rfl | rfl | rfl | rfl | rfl | rfl | rfl
  · exact tab_2
  · exact tab_3
  · exact tab_4
  · exact tab_5
  · exact tab_6
  · exact tab_7
  · exact tab_8
  · exact tab_9
theorem inE_good {n : Nat} (h2 : 2 ≤ n) (h9 : n ≤ 9) {h : UInt64} {k : Nat} (hi : inE n h k = true) {s v : Nat} (hs : s < 2) (hv : v < 4) : goodC n k (shareAt s) (valueAt v) (hsvOf h (shareAt s) (valueAt v)) = true := by
  unfold inE at hi
  rw [List.any_eq_true] at hi
  obtain ⟨e, he, hx⟩ := hi
  rw [Bool.and_eq_true, Bool.and_eq_true, beq_iff_eq, beq_iff_eq, beq_iff_eq] at hx
  obtain ⟨⟨e1, e2⟩, e3⟩ := hx
  have ht := List.all_eq_true.mp (tab_all h2 h9) e he
  unfold tabOk at ht
  have hs' := List.all_eq_true.mp ht s (by match s, hs with | 0, _ => simp | 1, _ => simp)
  have hv' := List.all_eq_true.mp hs' v (by match v, hv with | 0, _ => simp | 1, _ => simp | 2, _ => simp | 3, _ => simp)
  rw [e1, e2, e3] at hv'
  rw [hsvOf_eq]
  exact hv'
theorem hOk_of {h : UInt64} {s : UInt64} (hk : hOkB h = true) (hs : feq s 0 = false) : HsvOk h s := by
  unfold hOkB at hk
  rw [Bool.and_eq_true] at hk
  refine ⟨hs, by rw [mul_eq]; exact hk.1, ?_⟩
  have := Nat.le_of_ble_eq_true hk.2
  have h1000 : (1000 : Nat) < 2 ^ 1023 := by decide +kernel
  rw [mul_eq]
  exact Nat.lt_of_le_of_lt this h1000
theorem share_nz : ∀ s : Fin 2, feq (shareAt s.val) 0 = false := by decide +kernel
theorem share_of (x : Int) (n : Nat) : ∃ s, s < 2 ∧ lookShare x n = shareAt s := by
  rcases look_share x n with e | e
  · exact ⟨0, by decide, e⟩
  · exact ⟨1, by decide, e⟩
theorem value_of (x : Int) (n : Nat) : ∃ v, v < 4 ∧ lookValue x n = valueAt v := by
  rcases look_value x n with e | e | e | e
  · exact ⟨0, by decide, e⟩
  · exact ⟨1, by decide, e⟩
  · exact ⟨2, by decide, e⟩
  · exact ⟨3, by decide, e⟩
theorem col_good (x : Int) {n : Nat} (h : 2 ≤ n) (h9 : n ≤ 9) : Good n (lookHue x n) (lookShare x n) (lookValue x n) (colour x n) := by
  obtain ⟨a, ha, ea⟩ := look_hue x h
  obtain ⟨s, hs, es⟩ := share_of x n
  obtain ⟨v, hv, ev⟩ := value_of x n
  unfold colour Good
  rw [ea, es, ev]
  have h2 := List.all_eq_true.mp (chk2_all h h9) a (List.mem_range.mpr ha)
  rw [Bool.and_eq_true] at h2
  exact good_of (inE_good h h9 h2.2 hs hv)
theorem turn_good (x : Int) {n : Nat} (h : 2 ≤ n) (h9 : n ≤ 9) {st : Int} (h0 : 0 ≤ st) (h1 : st ≤ 5 * ((n : Int) - 1)) :
    HsvOk (Float64.add (rgbH (colour x n).1 (colour x n).2.1 (colour x n).2.2) (quo st n)) (rgbS (colour x n).1 (colour x n).2.1 (colour x n).2.2) ∧ Good n (Int.fmod (lookHue x n + st) n) (lookShare x n) (lookValue x n) (turned (colour x n) st n) := by
  obtain ⟨g1, g2, g3, _⟩ := col_good x h h9
  obtain ⟨a, ha, ea⟩ := look_hue x h
  obtain ⟨s, hs, es⟩ := share_of x n
  obtain ⟨v, hv, ev⟩ := value_of x n
  obtain ⟨j, rfl⟩ : ∃ j : Nat, st = (j : Int) := ⟨st.toNat, by omega⟩
  unfold turned
  rw [g2, g3]
  have h3 := List.all_eq_true.mp (chk3_all h h9) a (List.mem_range.mpr ha)
  have h3 := List.all_eq_true.mp h3 s (by match s, hs with | 0, _ => simp | 1, _ => simp)
  have h3 := List.all_eq_true.mp h3 v (by match v, hv with | 0, _ => simp | 1, _ => simp | 2, _ => simp | 3, _ => simp)
  rw [List.any_eq_true] at h3
  obtain ⟨b, hb, eb⟩ := h3
  rw [beq_iff_eq, ← hsvOf_eq] at eb
  have eH : rgbH (colour x n).1 (colour x n).2.1 (colour x n).2.2 = b.toUInt64 := by
    rw [rgbH_eq, eb]
    unfold colour
    rw [ea, es, ev]
  rw [eH]
  have h4 := List.all_eq_true.mp (chk4_all h h9) a (List.mem_range.mpr ha)
  have h4 := List.all_eq_true.mp h4 b hb
  have h4 := List.all_eq_true.mp h4 j (List.mem_range.mpr (by omega))
  rw [Bool.and_eq_true, ← add_eq] at h4
  rw [es, ev]
  refine ⟨hOk_of h4.1 (share_nz ⟨s, hs⟩), ?_⟩
  have e : Int.fmod (lookHue x n + (j : Int)) n = (((a + j) % n : Nat) : Int) := by
    rw [ea, Int.fmod_eq_emod_of_nonneg _ (by omega)]; rfl
  rw [e]
  exact good_of (inE_good h h9 h4.2 hs hv)
section
variable {M : Model} {A : Around} {E : Value → Shared → Prop} {s : Shared} {env : Env}
/-- a statement by itself, what is behind it apart -/
theorem cut_stmt {st : Stmt} {rest : List Stmt} {Q : Flow → Shared → Prop} (Q1 : Shared → Prop) (h1 : wpAny M A (exec st env) (fun f s' => f = .next ∧ Q1 s') E s) (h2 : ∀ s', Q1 s' → wpAny M A (execs rest env) Q E s') : wpAny M A (execs (st :: rest) env) Q E s := by
  refine wpAny_execs_cons (wpAny_mono h1 (fun f s' h => ?_) fun _ _ z => z)
  obtain ⟨rfl, h⟩ := h
  exact h2 s' h
end
theorem ring_set {g h' : Heap} {L : Addr} {N : Nat} {col : Nat → UInt64 × UInt64 × UInt64} {rv : List Value} {p T : Addr} {c : UInt64 × UInt64 × UInt64} {t u v : Tok} (r : RingAt g h' L N col rv) (e : h'.get? T = some (tup3 c.1 c.2.1 c.2.2 (t + 1) (u + 1) (v + 1))) (hg : g.get? T = none) (hL : T ≠ L) :
    RingAt g h' L N (fun d => if d = p then c else col d) (rv.set p (.ref T)) := by
  refine ⟨by rw [List.length_set]; exact r.1, fun i hi => ?_⟩
  by_cases q : i = p
  · subst q
    refine ⟨T, t, u, v, ?_, hg, hL, ?_⟩
    · rw [List.getElem?_set_self (by rw [r.1]; exact hi)]
    · show h'.get? T = some (tup3 (if i = i then c else col i).1 (if i = i then c else col i).2.1 (if i = i then c else col i).2.2 (t + 1) (u + 1) (v + 1))
      rw [if_pos rfl]; exact e
  · obtain ⟨T', t', u', v', a, b, d, f⟩ := r.2 i hi
    refine ⟨T', t', u', v', ?_, b, d, ?_⟩
    · rw [List.getElem?_set_ne (Ne.symm q)]; exact a
    · show h'.get? T' = some (tup3 (if i = p then c else col i).1 (if i = p then c else col i).2.1 (if i = p then c else col i).2.2 (t' + 1) (u' + 1) (v' + 1))
      rw [if_neg q]; exact f
section
variable {g : Heap} {L : Addr} {dn : List Int} {n N : Nat} {D4 xw xd : Addr} {lv : List Value} {news : List (Addr × Obj)} {h₀ : Heap} {m m' : Str → Option Value} {col col' : Nat → UInt64 × UInt64 × UInt64} {ps ps' : List Piece} {sz sz' : Int} {h h' : Heap} {gs gs' : Array GenState}
theorem LawS.setRing (x : LawS g L dn n N D4 xw xd lv news h₀ m col ps sz h gs) {rv : List Value} (k : ∀ b o, b ≠ D4 → h.get? b = some o → h'.get? b = some o) (hl : h'.IsList D4 rv.toArray) (hr : RingAt g h' L N col' rv) : LawS g L dn n N D4 xw xd lv news h₀ m col' ps sz h' gs :=
  x.go (.of4 k) (x.fr.ns.at' fun o e => k _ o (Ne.symm x.ap.rL) e) ⟨rv, hl, hr⟩ (let ⟨ep, a⟩ := x.win; ⟨ep, k _ _ x.ap.xr a⟩) (let ⟨hh, kt, tz, q, a⟩ := x.size; ⟨hh, kt, tz, q, k _ _ x.ap.dr a⟩) (x.pcsN (.of4 k)) (x.tabAt (.of4 k) fun _ e => k _ _ (Ne.symm x.ap.rt) e) x.bare
end
/-- the state of the main loop ahead of turn i -/
structure MainSt (g : Heap) (L : Addr) (dn : List Int) (wd N n : Nat) (D2 D4 xw xd : Addr) (lv : List Value) (news : List (Addr × Obj)) (i : Nat) (h : Heap) (gs : Array GenState) (m : Str → Option Value) (ps : List Piece) (la : Addr) (lits : List Value) : Prop where
  st : LawS g L dn n N D4 xw xd lv news h m (colAt dn wd N n i) ps (szAt dn wd n i) h gs
  w1 : m "window" = some (.ref xw)
  w2 : m "ring" = some (.ref D4)
  w3 : m "first" = some (.ref D2)
  w4 : ∃ t, m "size" = some (.int ((N : Nat) : Int) t)
  w6 : ∃ t, m "ahead" = some (.int (aheadOf dn wd n) t)
  w0 : ∃ t, m "total" = some (.int (totAt dn wd N n i) t)
  wL : m "later" = some (.ref la)
  la : h.IsList la lits.toArray
  lz : 0 < i → lits = piecesIts ps
  pcs : PiecesAre ps ((presses dn wd N n i).drop i)
noncomputable def MainJ (g : Heap) (L : Addr) (dn : List Int) (wd N n : Nat) (D2 D4 xw xd : Addr) (lv : List Value) (news : List (Addr × Obj)) (i : Nat) (h : Heap) (gs : Array GenState) : Prop := ∃ m ps la lits, MainSt g L dn wd N n D2 D4 xw xd lv news i h gs m ps la lits
theorem MainJ.iter {g : Heap} {L : Addr} {dn : List Int} {wd N n : Nat} {D2 D4 xw xd : Addr} {lv : List Value} {news : List (Addr × Obj)} {i : Nat} {h h' : Heap} {gs : Array GenState} (x : MainJ g L dn wd N n D2 D4 xw xd lv news i h gs) {I : Addr} {o : Obj} {T : String} (e : h.get? I = some o) (c : o.cls = .type T) (nT : T ≠ "tuple" ∧ T ≠ "list" ∧ T ≠ "dict") (hg : g.get? I = none) (hn : ∀ p ∈ news, p.1 ≠ I) (hL : L ≠ I)
    (k : ∀ b o, b ≠ I → h.get? b = some o → h'.get? b = some o) : MainJ g L dn wd N n D2 D4 xw xd lv news i h' gs := by
  obtain ⟨m, ps, la, lits, y⟩ := x
  refine ⟨m, ps, la, lits, { y with st := y.st.iter e c nT hg hn hL k, la := y.la.at fun o' e' => k _ o' (fun q => ?_) e' }⟩
  obtain ⟨o4, h4, c4, _⟩ := y.la
  rw [q, e] at h4; cases h4
  exact nT.2.1 (Value.type.inj (c.symm.trans c4))
/-- behind the choice of the press -/
noncomputable def PressJ (g : Heap) (L : Addr) (dn : List Int) (wd N n : Nat) (D4 xw xd : Addr) (lv : List Value) (news : List (Addr × Obj)) (h₀ : Heap) (m₂ : Str → Option Value) (ps : List Piece) (i : Nat) (h : Heap) (gs : Array GenState) : Prop :=
  ∃ m t, LawS g L dn n N D4 xw xd lv news h₀ m (colAt dn wd N n i) ps (szAt dn wd n i) h gs ∧ (∀ y u, y ≠ Str.ofString "press" → m₂ y = some u → m y = some u) ∧ m "press" = some (.int (pressAt dn wd N n i (presses dn wd N n i)) t)
theorem pressAt_lo {dn : List Int} {wd N n i : Nat} {P : List Int} (h : placeOf wd N i < wd - 1) : ((List.range (wd - 1)).map (firstAt dn n)).getD ((placeOf wd N i : Nat) : Int).toNat 0 = pressAt dn wd N n i P := by
  unfold pressAt
  rw [if_pos h, Int.toNat_natCast, List.getD_eq_getElem?_getD, List.getElem?_map, List.getElem?_range h]
  rfl
theorem pressAt_hi {dn : List Int} {wd N n i : Nat} {P : List Int} {a s : Int} (h : ¬ placeOf wd N i < wd - 1) (ha : a = hueA dn n (placeOf wd N i)) (hs : s = (P.drop i).sum) : Int.fmod (-(a + (szAt dn wd n i + s))) n = pressAt dn wd N n i P := by
  unfold pressAt
  rw [if_neg h, ha, hs]
theorem win_fits (dn : List Int) {wd N n i : Nat} (h : 2 ≤ n) (h9 : n ≤ 9) (hw : wd ≤ 4) {ps : List Piece} (hp : PiecesAre ps ((presses dn wd N n i).drop i)) :
    (ps.map pieceLen).sum = ((presses dn wd N n i).drop i).sum ∧ 0 ≤ szAt dn wd n i + (ps.map pieceLen).sum ∧ szAt dn wd n i + (ps.map pieceLen).sum < 2 ^ 63 ∧ (∀ j, (ps.getD j default).2.1.1.length < 1000 ∧ (ps.getD j default).2.2.1.length < 1000) ∧ ps.length = wd - 1 := by
  have hb : ∀ k ∈ (presses dn wd N n i).drop i, 0 ≤ k ∧ k < (n : Int) := fun k hk => presses_bd dn wd N h i k (List.mem_of_mem_drop hk)
  have e := pieces_sum hp fun k hk => (hb k hk).1
  have h1 := win_bd dn wd N h i
  have h2 := sz_bd dn wd h i
  have h3 : ((wd - 1 : Nat) : Int) * ((n : Int) - 1) ≤ 3 * ((n : Int) - 1) := Int.mul_le_mul_of_nonneg_right (by lia) (by lia)
  refine ⟨e, by rw [e]; lia, by rw [e]; lia, pieces_short hp fun k hk => by have := hb k hk; lia, ?_⟩
  rw [pieces_len hp, List.length_drop, presses_len]; lia
theorem LawS.pushed2 {g : Heap} {L : Addr} {dn : List Int} {n N : Nat} {D4 xw xd : Addr} {lv : List Value} {news : List (Addr × Obj)} {h₀ : Heap} {m : Str → Option Value} {col : Nat → UInt64 × UInt64 × UInt64} {ps : List Piece} {sz : Int} {h h' : Heap} {gs : Array GenState} {a : Addr} {t u : Tok} {k : Int} {ks : List Int} {ep : Nat}
    (x : LawS g L dn n N D4 xw xd lv news h₀ m col ps sz h gs) (hp : PiecesAre ps ks) (kk : ∀ b o, b ≠ xw → h.get? b = some o → h'.get? b = some o) (hn : h.get? a = none) (hw : h'.get? xw = some (winObj xd (piecesIts ps ++ [.ref a]) ep))
    (ha : h'.get? a = some { cls := .type "tuple", data := .seq #[.str (blanks k) t, .str (Str.ofString "") u] }) : ∃ ps2, LawS g L dn n N D4 xw xd lv news h₀ m col ps2 sz h' gs ∧ PiecesAre ps2 (ks ++ [k]) :=
  ⟨_, x.pushed (p := (a, (blanks k, t), (Str.ofString "", u))) kk hn hw ha, pieces_push hp⟩
theorem pieces_its_len {ps : List Piece} {ks : List Int} (h : PiecesAre ps ks) : (piecesIts ps).length = ks.length := by rw [List.length_map, pieces_len h]
theorem LawS.popped {g : Heap} {L : Addr} {dn : List Int} {n N : Nat} {D4 xw xd : Addr} {lv : List Value} {news : List (Addr × Obj)} {h₀ : Heap} {m : Str → Option Value} {col : Nat → UInt64 × UInt64 × UInt64} {ps : List Piece} {sz : Int} {h h' : Heap} {gs : Array GenState} {ep : Nat}
    (x : LawS g L dn n N D4 xw xd lv news h₀ m col ps sz h gs) (kk : ∀ b o, b ≠ xw → h.get? b = some o → h'.get? b = some o) (hw : h'.get? xw = some (winObj xd ((piecesIts ps).take 1) ep)) : LawS g L dn n N D4 xw xd lv news h₀ m col (ps.take 1) sz h' gs ∧ ∀ p ∈ ps, h'.get? p.1 = some (pieceObj p) ∧ g.get? p.1 = none ∧ p.1 ≠ L :=
  ⟨x.win' kk ⟨ep, by rw [hw, show piecesIts (ps.take 1) = (piecesIts ps).take 1 by simp [List.map_take]]⟩ fun q hq => x.pcsN (.ofX kk) q (List.mem_of_mem_take hq), x.pcsN (.ofX kk)⟩
theorem LawS.tupN {g : Heap} {L : Addr} {dn : List Int} {n N : Nat} {D4 xw xd : Addr} {lv : List Value} {news : List (Addr × Obj)} {h₀ : Heap} {m : Str → Option Value} {col : Nat → UInt64 × UInt64 × UInt64} {ps : List Piece} {sz : Int} {h h' : Heap} {gs : Array GenState}
    (x : LawS g L dn n N D4 xw xd lv news h₀ m col ps sz h gs) (k : Near L D4 xw xd h h') {T : Addr} {o : Obj} (e : h.get? T = some o) (c : o.cls = .type "tuple") (hL : T ≠ L) : h'.get? T = some o :=
  let ⟨n1, n2, n3, n4⟩ := x.tup e c; k _ _ hL n1 n2 n3 n4 e
theorem LawS.lst {g : Heap} {L : Addr} {dn : List Int} {n N : Nat} {D4 xw xd : Addr} {lv : List Value} {news : List (Addr × Obj)} {h₀ : Heap} {m : Str → Option Value} {col : Nat → UInt64 × UInt64 × UInt64} {ps : List Piece} {sz : Int} {h : Heap} {gs : Array GenState}
    (x : LawS g L dn n N D4 xw xd lv news h₀ m col ps sz h gs) {T : Addr} {o : Obj} (e : h.get? T = some o) (c : o.cls = .type "list") : T ≠ xw ∧ T ≠ xd ∧ T ≠ 62 := by
  obtain ⟨ep, hx⟩ := x.win
  obtain ⟨hh, kt, tz, k, hd⟩ := x.size
  obtain ⟨ps', _, ht⟩ := x.tab
  have ht := ht.2
  refine ⟨?_, ?_, ?_⟩ <;> rintro rfl
  · rw [hx] at e; cases e; cases c
  · rw [hd] at e; cases e; exact absurd (Value.type.inj c) (by decide)
  · rw [ht] at e; cases e; cases c
theorem colAt_succ (dn : List Int) {wd N : Nat} (n : Nat) (hw : 1 ≤ wd) (hN : wd ≤ N) {i : Nat} (hi : i < N) : colAt dn wd N n (i + 1) = fun d => if d = placeOf wd N i then turned (colour (dn.getD (2 + placeOf wd N i) 0) n) (stepsAt dn wd N n i) n else colAt dn wd N n i d := by
  funext d
  show (if d = placeOf wd N i then turned (colAt dn wd N n i (placeOf wd N i)) (stepsAt dn wd N n i) n else colAt dn wd N n i d) = _
  rw [colAt_fresh dn n hw hN i i (Nat.le_refl _) hi]
theorem LawS.colEq {g : Heap} {L : Addr} {dn : List Int} {n N : Nat} {D4 xw xd : Addr} {lv : List Value} {news : List (Addr × Obj)} {h₀ : Heap} {m : Str → Option Value} {col col' : Nat → UInt64 × UInt64 × UInt64} {ps : List Piece} {sz : Int} {h : Heap} {gs : Array GenState}
    (x : LawS g L dn n N D4 xw xd lv news h₀ m col ps sz h gs) (e : col' = col) : LawS g L dn n N D4 xw xd lv news h₀ m col' ps sz h gs := e ▸ x
theorem one_bd (dn : List Int) {wd N n : Nat} (h : 2 ≤ n) (h9 : n ≤ 9) (i : Nat) {ps : List Piece} (hp : PiecesAre ps ((presses dn wd N n (i + 1)).drop i)) : ((ps.take 1).map pieceLen).sum = (((presses dn wd N n (i + 1)).drop i).take 1).sum ∧ 0 ≤ szAt dn wd n i + ((ps.take 1).map pieceLen).sum ∧ szAt dn wd n i + ((ps.take 1).map pieceLen).sum < 2 ^ 63 ∧ (∀ j, ((ps.take 1).getD j default).2.1.1.length < 1000 ∧ ((ps.take 1).getD j default).2.2.1.length < 1000) := by
  have hb : ∀ k ∈ ((presses dn wd N n (i + 1)).drop i).take 1, 0 ≤ k ∧ k < (n : Int) := fun k hk => presses_bd dn wd N h (i + 1) k (List.mem_of_mem_drop (List.mem_of_mem_take hk))
  have e := pieces_sum (pieces_take hp 1) fun k hk => (hb k hk).1
  have h1 := sum_bd hb
  have h2 := sz_bd dn wd h i
  have h3 : (((((presses dn wd N n (i + 1)).drop i).take 1).length : Nat) : Int) * ((n : Int) - 1) ≤ 1 * ((n : Int) - 1) := Int.mul_le_mul_of_nonneg_right (by rw [List.length_take]; lia) (by lia)
  exact ⟨e, by rw [e]; lia, by rw [e]; lia, pieces_short (pieces_take hp 1) fun k hk => by have := hb k hk; lia⟩
theorem szAt_succ (dn : List Int) (wd n i : Nat) : szAt dn wd n (i + 1) = 0 := by unfold szAt; rw [if_neg (Nat.succ_ne_zero i)]
theorem ldName {prog : Program} {w : World} {A : Around} {E : Value → Shared → Prop} {s : Shared} {env : Env} {x : Str} {m : Str → Option Value} {L : Addr} {v : Value} {Q : Value → Shared → Prop} (hn : s.heap.Ns L m) (hv : m x = some v) (h : Q v s) (hL : env.locals = L := by rfl) (hk : env.scope.kind = .function := by rfl) (hl : env.kindOf x = some .local := by rfl) :
    wpAny (model prog w) A (loadName env x) Q E s := wpAny_loadName_local hk hl (by rw [hL]; exact hn) hv h
theorem LawS.newMu {g : Heap} {L : Addr} {dn : List Int} {n N : Nat} {D4 xw xd : Addr} {lv : List Value} {news : List (Addr × Obj)} {h₀ : Heap} {m : Str → Option Value} {col : Nat → UInt64 × UInt64 × UInt64} {ps : List Piece} {sz : Int} {h : Heap} {gs : Array GenState}
    (x : LawS g L dn n N D4 xw xd lv news h₀ m col ps sz h gs) {a : Addr} (e : h.get? a = none) : a ∉ [L, xw, xd, D4, 62] := by
  obtain ⟨ep, hx⟩ := x.win
  obtain ⟨hh, kt, tz, k, hd⟩ := x.size
  obtain ⟨ps', _, ht⟩ := x.tab
  have ht := ht.2
  obtain ⟨rv, ⟨o4, hr, _⟩, _⟩ := x.ring
  simp only [List.mem_cons, List.not_mem_nil, or_false, not_or]
  exact ⟨(x.fresh e).2, ne_of_none_some' e hx, ne_of_none_some' e hd, ne_of_none_some' e hr, ne_of_none_some' e ht⟩
noncomputable def bookChk (o : Obj) : Bool := match o.data with
  | .dict es _ => es.size == 0
  | _ => false
theorem booked {w : World} {h : Heap} (X : (Mine.hd.heap_39 w.params).In h) : NoneBooked h := by
  have e : ((Mine.hd.heap_39 w.params).lookup 2).map bookChk = some true := by kernel_rfl
  obtain ⟨⟨oc, od, odt, osl⟩, e1, e2⟩ := Option.map_eq_some_iff.mp e
  cases odt with
  | dict es n =>
    have e3 : es.size = 0 := by simpa [bookChk] using e2
    obtain rfl : es = #[] := Array.eq_empty_of_size_eq_zero e3
    exact ⟨fun _ => none, ⟨_, #[], n, X _ _ e1, rfl, fun _ h => by simp at h, fun _ => rfl⟩, rfl⟩
  | _ => exact Bool.noConfusion e2
section
variable {prog : Program} {w : World} {A : Around} {E : Value → Shared → Prop} {s : Shared}
theorem same_f {M : Model} {x y : UInt64} {u v : Tok} {Q : Bool → Shared → Prop} (h0 : (u == 0 || v == 0) = false) (hb : NoneBooked s.heap) (hq : ∀ b, Q b s) : wpAny M A (isSame (.float x u) (.float y v)) Q E s := by
  show wpAny M A (isSame.created (x == y && !Float64.isNaN x) u v) Q E s
  unfold isSame.created
  refine wpAny_ite ?_
  split
  · rename_i h; rw [h0] at h; exact absurd h Bool.false_ne_true
  refine wpAny_ite ?_
  split
  · exact wpAny_pure (hq _)
  refine wpAny_ite ?_
  split
  · exact wpAny_pure (hq _)
  refine wpAny_bind (wpAny_sharingNotTold_none hb ?_)
  first | rw [if_neg Bool.false_ne_true] | simp only [Bool.false_eq_true, if_false]
  refine wpAny_bind (wpAny_sharingNotTold_none hb ?_)
  first | rw [if_neg Bool.false_ne_true] | simp only [Bool.false_eq_true, if_false]
  exact wpAny_bind (wpAny_rule (wpAny_bind (wpAny_askSetting (wpAny_pure (hq _)))))
theorem eqAt_f {x : UInt64} {u v : Tok} (hb : NoneBooked s.heap) (hx : feq x x = true) : SeqAt.EqAt A s (.float x (u + 1)) (.float x (v + 1)) true := fun prog w E Q h => by
  unfold eqBool
  refine wpAny_holding ?_
  refine wpAny_ite_split (fun _ => wpAny_bind (wpAny_rule (wpAny_pure h))) (fun _ => ?_)
  refine wpAny_bind (same_f (by simp) hb fun b => ?_)
  cases b with
  | true => exact wpAny_pure h
  | false =>
    have hc : (Float64.cmp x x == some Ordering.eq) = true := hx
    exact wpAny_bind (AutoFloatOps.eq_0 (wpAny_truthy_bool (by rw [hc]; exact h)))
end
section
variable {prog : Program} {w : World} {A : Around} {E : Value → Shared → Prop} {s : Shared}
theorem newTuple_p {items : List Value} {Q : Value → Shared → Prop} (hsz : items.length ≤ 100) (h : ∀ a h', s.heap.get? a = none → (∀ b o, s.heap.get? b = some o → h'.get? b = some o) → h'.get? a = some { cls := .type "tuple", data := .seq items.toArray } → Q (.ref a) { s with heap := h' }) : wpAny (model prog w) A (newTuple items) Q E s := by
  unfold newTuple
  refine wpAny_newObj_type ?_ (by show items.toArray.size ≤ sizeLine; rw [sizeLine_eq, List.size_toArray]; lia)
  exact h _ _ (get_size_none _) (fun b o e => Heap.get?_push_of_some _ e) (Heap.get?_push_size _ rfl)
theorem isTup_at {h : Heap} {a : Addr} {items : Array Value} (e : h.get? a = some { cls := .type "tuple", data := .seq items }) : h.IsTuple a items := ⟨_, e, rfl, 0, rfl⟩
theorem ne_tup2 {a b : Addr} {x y : Int} {t u t' u' : Tok} {Q : Value → Shared → Prop} (ha : s.heap.get? a = some { cls := .type "tuple", data := .seq #[.int x t, .int y u] }) (hb : s.heap.get? b = some { cls := .type "tuple", data := .seq #[.int x t', .int y u'] }) (hu : A.units < cLine) (h : Q (.bool false) s) :
    wpAny (model prog w) A (compareOp .NotEq (.ref a) (.ref b)) Q E s := by
  have r := SeqAt.RcNeAt.tuples (e := fun _ => true) (A := A) (isTup_at ha) (isTup_at hb) hu fun j h1 h2 => by
    match j, h1, h2 with
    | 0, _, _ => have := SeqAt.EqAt.int_int (A := A.in1) (s := s) x t x t'; rw [beq_self_eq_true] at this; exact this
    | 1, _, _ => have := SeqAt.EqAt.int_int (A := A.in1) (s := s) y u y u'; rw [beq_self_eq_true] at this; exact this
    | n + 2, h1, _ => exact absurd h1 (by simp)
  exact r prog w E Q h
theorem ne_tup3 {a b : Addr} {x : Int} {p q : UInt64} {t u v t' u' v' : Tok} {Q : Value → Shared → Prop} (hbk : NoneBooked s.heap) (hp : feq p p = true) (hq : feq q q = true) (ha : s.heap.get? a = some { cls := .type "tuple", data := .seq #[.int x t, .float p (u + 1), .float q (v + 1)] }) (hb : s.heap.get? b = some { cls := .type "tuple", data := .seq #[.int x t', .float p (u' + 1), .float q (v' + 1)] }) (hu : A.units < cLine) (h : Q (.bool false) s) :
    wpAny (model prog w) A (compareOp .NotEq (.ref a) (.ref b)) Q E s := by
  have r := SeqAt.RcNeAt.tuples (e := fun _ => true) (A := A) (isTup_at ha) (isTup_at hb) hu fun j h1 h2 => by
    match j, h1, h2 with
    | 0, _, _ => have := SeqAt.EqAt.int_int (A := A.in1) (s := s) x t x t'; rw [beq_self_eq_true] at this; exact this
    | 1, _, _ => exact eqAt_f hbk hp
    | 2, _, _ => exact eqAt_f hbk hq
    | n + 3, h1, _ => exact absurd h1 (by simp)
  exact r prog w E Q h
/-- an item of a tuple at a written place -/
theorem item_tup {value slice : Expr} {T : Addr} {l : List Value} {k : Int} {u : Tok} {j : Nat} {x : Value} {Q : Value → Shared → Prop} (ht : s.heap.get? T = some { cls := .type "tuple", data := .seq l.toArray }) (hlo : -(2 ^ 63) ≤ k) (hhi : k < 2 ^ 63) (hj : seqIndex? k l.length = some j) (hx : l[j]? = some x) (h : Q x s)
    (hs : subscripted slice false (.ref T) (.int k u) = operate [.ref T, .int k u] (getItem (.ref T) (.int k u)) := by with_unfolding_all rfl) : wpAny (model prog w) A (subscriptTail value slice (.ref T) (.int k u)) Q E s :=
  item_tupleT (l := l) ⟨_, ht, rfl, 0, rfl⟩ hlo hhi hj hx h hs
end
/-- a piece as data -/
noncomputable def pieceD (k : Int) : PyData := .tuple [.str (blanks k), .str (Str.ofString "")]
theorem eqv_pieces : ∀ ks : List Int, PyData.eqvAll (ks.map pieceD) (ks.map pieceD) = true
  | [] => rfl
  | k :: ks => by
    rw [List.map_cons, PyData.eqvAll, eqv_pieces ks]
    simp [pieceD, PyData.eqv, PyData.eqvAll]
theorem blanks_ok : ∀ j : Fin 20, PyData.strOk (blanks (j.val : Int)) = true := by decide +kernel
theorem lay_pieces : ∀ ks : List Int, (∀ k ∈ ks, 0 ≤ k ∧ k < 20) → PyData.canLayAll0 (ks.map pieceD) = true
  | [], _ => rfl
  | k :: ks, h => by
    have h1 := h k (.head _)
    have e := blanks_ok ⟨k.toNat, by lia⟩
    rw [show ((⟨k.toNat, by lia⟩ : Fin 20).val : Int) = k by show ((k.toNat : Nat) : Int) = k; lia] at e
    rw [List.map_cons, PyData.canLayAll0, lay_pieces ks fun k hk => h k (.tail _ hk), Bool.and_true]
    simp only [pieceD, PyData.canLay0, PyData.canLayAll0, e, Bool.true_and, Bool.and_true]
    decide +kernel
theorem depth_pieces : ∀ ks : List Int, PyData.depthAll (ks.map pieceD) ≤ 1
  | [] => by simp [PyData.depthAll]
  | k :: ks => by
    have := depth_pieces ks
    rw [List.map_cons, PyData.depthAll]
    simp only [pieceD, PyData.depth, PyData.depthAll]
    lia
theorem shaped_pieces (ks : List Int) (h : ∀ k ∈ ks, 0 ≤ k ∧ k < 20) : SeqAt.shaped (.list (ks.map pieceD)) = true := by
  unfold SeqAt.shaped
  rw [Bool.and_eq_true]
  refine ⟨by simp only [PyData.canLay0]; exact lay_pieces ks h, decide_eq_true ?_⟩
  have := depth_pieces ks
  simp only [PyData.depth]
  lia
theorem reads_piece {h : Heap} {T : Addr} {k : Int} {t u : Tok} (e : h.get? T = some { cls := .type "tuple", data := .seq #[.str (blanks k) t, .str (Str.ofString "") u] }) : Reads h (.ref T) (pieceD k) [] :=
  .tuple e rfl rfl (.cons (.str _ _) (.cons (.str _ _) .nil))
theorem reads_pieces {h : Heap} : ∀ {ps : List Piece} {ks : List Int}, PiecesAre ps ks → (∀ p ∈ ps, h.get? p.1 = some (pieceObj p)) → ReadsAll h (piecesIts ps) (ks.map pieceD) [] := by
  intro ps
  induction ps with
  | nil => intro ks hp _; cases ks with
    | nil => exact .nil
    | cons k ks => cases hp
  | cons p ps ih =>
    intro ks hp hs
    cases ks with
    | nil => cases hp
    | cons k ks =>
      unfold PiecesAre at hp
      rw [List.map_cons, List.map_cons] at hp
      obtain ⟨h1, h2⟩ := List.cons.inj hp
      have e1 : p.2.1.1 = blanks k := (Prod.mk.inj h1).1
      have e2 : p.2.2.1 = (⟨#[]⟩ : Str) := (Prod.mk.inj h1).2
      have e := hs p (.head _)
      unfold pieceObj at e
      rw [e1, e2] at e
      exact .cons (reads_piece e) (ih (show PiecesAre ps ks from h2) fun q hq => hs q (.tail _ hq))
theorem reads_made {h : Heap} {f : Nat → Int} : ∀ {M : Nat} {ys : List Value}, ys.length = M → (∀ (i : Nat) (y : Value), ys[i]? = some y → ∃ T t u, y = .ref T ∧ h.get? T = some { cls := .type "tuple", data := .seq #[.str (blanks (f i)) t, .str (Str.ofString "") u] }) → ReadsAll h ys (((List.range M).map f).map pieceD) [] := by
  intro M ys
  induction ys generalizing M f with
  | nil => intro e _; cases e; exact .nil
  | cons y ys ih =>
    intro e hy
    cases M with
    | zero => cases e
    | succ M =>
      obtain ⟨T, t, u, rfl, hT⟩ := hy 0 y rfl
      rw [List.range_succ_eq_map, List.map_cons, List.map_map, List.map_cons]
      exact .cons (reads_piece hT) (ih (f := fun i => f (i + 1)) (Nat.succ.inj e) fun i z hz => hy (i + 1) z hz)
section
variable (dn : List Int) (wd N n : Nat)
theorem pre_ex (i : Nat) : ∀ k, ∃ l, presses dn wd N n (i + k) = presses dn wd N n i ++ l
  | 0 => ⟨[], by simp⟩
  | k + 1 => by
    obtain ⟨l, e⟩ := pre_ex i k
    refine ⟨l ++ [pressAt dn wd N n (i + k) (presses dn wd N n (i + k))], ?_⟩
    rw [← List.append_assoc, ← e]; rfl
theorem pre_take {i M : Nat} (h : i ≤ M) : presses dn wd N n i = (presses dn wd N n M).take (wd - 1 + i) := by
  obtain ⟨l, e⟩ := pre_ex dn wd N n i (M - i)
  rw [show i + (M - i) = M by lia] at e
  rw [e, List.take_left' (presses_len dn wd N n i)]
/-- sum of the first j presses -/
noncomputable def pfx (j : Nat) : Int := ((presses dn wd N n N).take j).sum
theorem pfx_zero : pfx dn wd N n 0 = 0 := rfl
theorem sum_split (l : List Int) {a b : Nat} (h : a ≤ b) : (l.take b).sum = (l.take a).sum + ((l.take b).drop a).sum := by
  have e : l.take b = (l.take b).take a ++ (l.take b).drop a := (List.take_append_drop _ _).symm
  have e2 : (l.take b).take a = l.take a := by rw [List.take_take, Nat.min_eq_left h]
  rw [e2] at e
  conv => lhs; rw [e]
  rw [List.sum_append]
theorem steps_pfx {i : Nat} (hw : 1 ≤ wd) (hi : i < N) : stepsAt dn wd N n i = szAt dn wd n i + (pfx dn wd N n (wd + i) - pfx dn wd N n i) := by
  unfold stepsAt pfx
  rw [pre_take dn wd N n (i := i + 1) (M := N) hi, show wd - 1 + (i + 1) = wd + i by lia]
  have := sum_split (presses dn wd N n N) (a := i) (b := wd + i) (by lia)
  lia
theorem tot_pfx : ∀ i, i ≤ N → 2 ≤ wd → totAt dn wd N n i = pfx dn wd N n i + (if i = 0 then 0 else aheadOf dn wd n)
  | 0, _, _ => by simp [totAt, pfx_zero]
  | i + 1, h, hw => by
    rw [totAt, tot_pfx i (by lia) hw, if_neg (Nat.succ_ne_zero i)]
    have e : ((presses dn wd N n (i + 1)).drop i).take 1 = ((presses dn wd N n N).take (i + 1)).drop i := by
      rw [pre_take dn wd N n (i := i + 1) (M := N) h, List.take_drop, List.take_take, Nat.min_eq_left (by lia)]
    have := sum_split (presses dn wd N n N) (a := i) (b := i + 1) (by lia)
    rw [e]
    unfold pfx szAt
    split <;> lia
theorem drop_last {i : Nat} (hw : 1 ≤ wd) (hi : i < N) : pfx dn wd N n (wd + i) = pfx dn wd N n i + ((presses dn wd N n i).drop i).sum + pressAt dn wd N n i (presses dn wd N n i) := by
  have h1 := steps_pfx dn wd N n hw hi
  unfold stepsAt at h1
  rw [presses_drop, List.sum_append] at h1
  simp only [List.sum_cons, List.sum_nil] at h1
  lia
theorem neg_mod (c : Int) {n : Nat} (h : 2 ≤ n) : ∃ q : Int, c + Int.fmod (-c) n = n * q := by
  refine ⟨-((-c).fdiv n), ?_⟩
  have := Int.fmod_add_fdiv_mul (-c) n
  rw [Int.mul_neg, Int.mul_comm]
  lia
/-- a dial that is brought to red -/
theorem pfx_step {i : Nat} (h2 : 2 ≤ n) (hw : 2 ≤ wd) (hi : i < N - (wd - 1)) : ∃ q : Int, pfx dn wd N n (wd + i) = pfx dn wd N n i - hueA dn n (wd - 1 + i) - szAt dn wd n i + n * q := by
  have hp : placeOf wd N i = wd - 1 + i := by unfold placeOf; rw [if_pos hi]
  have h1 := drop_last dn wd N n (i := i) (by lia) (by lia)
  obtain ⟨q, hq⟩ := neg_mod (hueA dn n (wd - 1 + i) + (szAt dn wd n i + ((presses dn wd N n i).drop i).sum)) h2
  refine ⟨q, ?_⟩
  have e : pressAt dn wd N n i (presses dn wd N n i) = Int.fmod (-(hueA dn n (wd - 1 + i) + (szAt dn wd n i + ((presses dn wd N n i).drop i).sum))) n := by
    unfold pressAt
    rw [hp, if_neg (by lia)]
  rw [e] at h1
  lia
/-- sum of the hues of r dials, k, k + wd .. -/
noncomputable def rowSum (k : Nat) : Nat → Int
  | 0 => 0
  | r + 1 => rowSum k r + hueA dn n (r * wd + k)
theorem pfx_row (h2 : 2 ≤ n) (hw : 2 ≤ wd) {c : Nat} (hc : c < wd) : ∀ r, r * wd + c ≤ N → ∃ q : Int, pfx dn wd N n (r * wd + c) = pfx dn wd N n c - rowSum dn wd n (c + wd - 1) r - (if c = 0 ∧ 0 < r then aheadOf dn wd n else 0) + n * q
  | 0, _ => ⟨0, by simp [rowSum]⟩
  | r + 1, h => by
    rw [Nat.succ_mul] at h
    obtain ⟨q, hq⟩ := pfx_row h2 hw hc r (by lia)
    obtain ⟨q2, hq2⟩ := pfx_step dn wd N n (i := r * wd + c) h2 hw (by lia)
    refine ⟨q + q2, ?_⟩
    rw [Nat.succ_mul, show r * wd + wd + c = wd + (r * wd + c) by lia, hq2, hq, rowSum, show wd - 1 + (r * wd + c) = r * wd + (c + wd - 1) by lia, Int.mul_add]
    unfold szAt
    by_cases hr : r = 0
    · subst hr
      by_cases hc0 : c = 0
      · subst hc0; simp; lia
      · simp [hc0]; lia
    · have : r * wd + c ≠ 0 := by
        have := Nat.mul_pos (Nat.pos_of_ne_zero hr) (show 0 < wd by lia)
        lia
      rw [if_neg this]
      by_cases hc0 : c = 0
      · subst hc0; simp [Nat.pos_of_ne_zero hr]; lia
      · simp [hc0]; lia
theorem rowSum_shift (k : Nat) : ∀ r, rowSum dn wd n (k + wd) r = rowSum dn wd n k (r + 1) - hueA dn n k
  | 0 => by simp [rowSum]
  | r + 1 => by
    rw [rowSum, rowSum_shift k r, rowSum]
    rw [rowSum, rowSum, show (r + 1) * wd + k = r * wd + (k + wd) by rw [Nat.succ_mul]; lia]
    lia
theorem wrap_list : ∀ j, j ≤ wd - 1 → wd ≤ N → presses dn wd N n (N - (wd - 1) + j) = presses dn wd N n (N - (wd - 1)) ++ (List.range j).map (firstAt dn n)
  | 0, _, _ => by simp
  | j + 1, h, hN => by
    rw [← Nat.add_assoc, presses, wrap_list j (by lia) hN, List.range_succ, List.map_append, ← List.append_assoc]
    have e : placeOf wd N (N - (wd - 1) + j) = j := by unfold placeOf; rw [if_neg (by lia)]; lia
    congr 1
    unfold pressAt
    rw [e, if_pos (by lia)]; rfl
theorem last_window (hw : 1 ≤ wd) (hN : wd ≤ N) : (presses dn wd N n N).drop N = (List.range (wd - 1)).map (firstAt dn n) := by
  have e := wrap_list dn wd N n (wd - 1) (Nat.le_refl _) hN
  rw [show N - (wd - 1) + (wd - 1) = N by lia] at e
  rw [e, List.drop_left' (by rw [presses_len]; lia)]
theorem pfx_wrap {c : Nat} (hw : 1 ≤ wd) (hN : wd ≤ N) (hc : c ≤ wd - 1) : pfx dn wd N n (N + c) = pfx dn wd N n N + pfx dn wd N n c := by
  have h1 := sum_split (presses dn wd N n N) (a := N) (b := N + c) (by lia)
  have e : ((presses dn wd N n N).take (N + c)).drop N = (presses dn wd N n N).take c := by
    rw [List.drop_take, last_window dn wd N n hw hN, show N + c - N = c by lia]
    have e0 := pre_take dn wd N n (i := 0) (M := N) (Nat.zero_le _)
    have : (presses dn wd N n N).take c = (presses dn wd N n 0).take c := by rw [e0, List.take_take, Nat.min_eq_left (by lia)]
    rw [this]; rfl
  rw [e] at h1
  exact h1
end
theorem fmod_add (a q : Int) (n : Nat) : Int.fmod (a + n * q) n = Int.fmod a n := Int.add_mul_fmod_self_left ..
section
variable (dn : List Int) {wd qq n : Nat}
theorem pfx_all (h2 : 2 ≤ n) (hw : 2 ≤ wd) (hq : 2 ≤ qq) : ∃ q : Int, pfx dn wd (wd * qq) n (wd * qq) = - rowSum dn wd n (wd - 1) qq - aheadOf dn wd n + n * q := by
  obtain ⟨q, h⟩ := pfx_row dn wd (wd * qq) n h2 hw (c := 0) (by lia) qq (by rw [Nat.mul_comm]; lia)
  refine ⟨q, ?_⟩
  rw [if_pos ⟨rfl, by lia⟩, Nat.add_zero, Nat.mul_comm qq wd, pfx_zero, Nat.zero_add] at h
  lia
theorem law_red (h2 : 2 ≤ n) (hw : 2 ≤ wd) {N i : Nat} (hi : i < N - (wd - 1)) : Int.fmod (hueA dn n (placeOf wd N i) + stepsAt dn wd N n i) n = 0 := by
  obtain ⟨q, h⟩ := pfx_step dn wd N n h2 hw hi
  have hp : placeOf wd N i = wd - 1 + i := by unfold placeOf; rw [if_pos hi]
  have hs := steps_pfx dn wd N n (i := i) (by lia) (by lia)
  rw [hp, show hueA dn n (wd - 1 + i) + stepsAt dn wd N n i = 0 + n * q by lia, fmod_add]
  simp
theorem law_left (h2 : 2 ≤ n) (hw : 2 ≤ wd) (hq : 2 ≤ qq) {k : Nat} (hk : k < wd - 1) :
    placeOf wd (wd * qq) (wd * qq - (wd - 1) + k) = k ∧ Int.fmod (hueA dn n k + stepsAt dn wd (wd * qq) n (wd * qq - (wd - 1) + k)) n = Int.fmod (rowSum dn wd n k qq - rowSum dn wd n (wd - 1) qq - aheadOf dn wd n) n := by
  obtain ⟨r, rfl⟩ : ∃ r, qq = r + 1 := ⟨qq - 1, by lia⟩
  have hN : wd ≤ wd * (r + 1) := Nat.le_mul_of_pos_right _ (by lia)
  have hNr : wd * (r + 1) = r * wd + wd := by rw [Nat.mul_succ, Nat.mul_comm]
  have hr1 : wd ≤ r * wd := Nat.le_mul_of_pos_left _ (by lia)
  refine ⟨by unfold placeOf; rw [if_neg (by lia)]; lia, ?_⟩
  obtain ⟨q2, hA⟩ := pfx_all dn (wd := wd) (qq := r + 1) (n := n) h2 hw hq
  obtain ⟨q, hB⟩ := pfx_row dn wd (wd * (r + 1)) n h2 hw (c := k + 1) (by lia) r (by lia)
  rw [if_neg (by lia), show k + 1 + wd - 1 = k + wd by lia, rowSum_shift] at hB
  have hC := pfx_wrap dn wd (wd * (r + 1)) n (c := k + 1) (by lia) hN (by lia)
  have hs := steps_pfx dn wd (wd * (r + 1)) n (i := wd * (r + 1) - (wd - 1) + k) (by lia) (by lia)
  rw [show wd + (wd * (r + 1) - (wd - 1) + k) = wd * (r + 1) + (k + 1) by lia, show wd * (r + 1) - (wd - 1) + k = r * wd + (k + 1) by lia] at hs
  unfold szAt at hs
  rw [if_neg (by lia)] at hs
  rw [show wd * (r + 1) - (wd - 1) + k = r * wd + (k + 1) by lia]
  have e : hueA dn n k + stepsAt dn wd (wd * (r + 1)) n (r * wd + (k + 1)) = rowSum dn wd n k (r + 1) - rowSum dn wd n (wd - 1) (r + 1) - aheadOf dn wd n + n * (q2 - q) := by
    rw [Int.mul_sub]; lia
  rw [e, fmod_add]
theorem law_total (h2 : 2 ≤ n) (hw : 2 ≤ wd) (hq : 2 ≤ qq) : Int.fmod (totAt dn wd (wd * qq) n (wd * qq) + rowSum dn wd n (wd - 1) qq) n = 0 := by
  obtain ⟨q, hA⟩ := pfx_all dn (wd := wd) (qq := qq) (n := n) h2 hw hq
  have hpos : wd * qq ≠ 0 := Nat.ne_of_gt (Nat.mul_pos (by lia) (by lia))
  have ht := tot_pfx dn wd (wd * qq) n (wd * qq) (Nat.le_refl _) hw
  rw [if_neg hpos] at ht
  rw [show totAt dn wd (wd * qq) n (wd * qq) + rowSum dn wd n (wd - 1) qq = 0 + n * q by lia, fmod_add]
  simp
end
/-- behind the main loop: the window is empty, later's list and its pieces stand -/
structure EndSt (g : Heap) (L : Addr) (dn : List Int) (wd N n : Nat) (D4 xw xd : Addr) (lv : List Value) (news : List (Addr × Obj)) (h₀ : Heap) (ps : List Piece) (la : Addr) (m : Str → Option Value) (h : Heap) (gs : Array GenState) : Prop where
  st : LawS g L dn n N D4 xw xd lv news h₀ m (colAt dn wd N n N) [] 0 h gs
  la : h.IsList la (piecesIts ps).toArray
  pk : ∀ p ∈ ps, h.get? p.1 = some (pieceObj p) ∧ g.get? p.1 = none ∧ p.1 ≠ L
section
variable {g : Heap} {L : Addr} {dn : List Int} {wd N n : Nat} {D4 xw xd : Addr} {lv : List Value} {news : List (Addr × Obj)} {h₀ : Heap} {ps : List Piece} {la : Addr} {m m' : Str → Option Value} {h h' : Heap} {gs gs' : Array GenState}
theorem EndSt.keep (x : EndSt g L dn wd N n D4 xw xd lv news h₀ ps la m h gs) (k : ∀ b o, h.get? b = some o → h'.get? b = some o) : EndSt g L dn wd N n D4 xw xd lv news h₀ ps la m h' gs :=
  ⟨x.st.keep k, x.la.at fun o e => k _ o e, fun p hp => ⟨k _ _ (x.pk p hp).1, (x.pk p hp).2⟩⟩
theorem EndSt.rebase (x : EndSt g L dn wd N n D4 xw xd lv news h₀ ps la m h gs) : EndSt g L dn wd N n D4 xw xd lv news h ps la m h gs := ⟨x.st.rebase, x.la, x.pk⟩
theorem EndSt.abs {nm : Str} {v : Value} (x : EndSt g L dn wd N n D4 xw xd lv news h₀ ps la (fun z => if z = nm then some v else m z) h gs) : ∃ m2, m2 nm = some v ∧ (∀ y u, y ≠ nm → m y = some u → m2 y = some u) ∧ EndSt g L dn wd N n D4 xw xd lv news h₀ ps la m2 h gs := ⟨_, if_pos rfl, fun _ _ n e => (if_neg n).trans e, x⟩
theorem EndSt.laL (x : EndSt g L dn wd N n D4 xw xd lv news h₀ ps la m h gs) : la ≠ L := by
  rintro rfl
  obtain ⟨o, e, _, _, d⟩ := x.la
  obtain ⟨oL, es, ep, hL, dL, _⟩ := x.st.fr.ns
  rw [e] at hL; cases hL
  rw [d] at dL; cases dL
theorem EndSt.local (x : EndSt g L dn wd N n D4 xw xd lv news h₀ ps la m h gs) (hn : h'.Ns L m') (k : ∀ b o, b ≠ L → h.get? b = some o → h'.get? b = some o) : EndSt g L dn wd N n D4 xw xd lv news h₀ ps la m' h' gs :=
  ⟨x.st.local hn k, x.la.at fun o e => k _ o x.laL e, fun p hp => ⟨k _ _ (x.pk p hp).2.2 (x.pk p hp).1, (x.pk p hp).2⟩⟩
theorem EndSt.lens (x : EndSt g L dn wd N n D4 xw xd lv news h₀ ps la m h gs) (k : ∀ b o, b ≠ 62 → h.get? b = some o → h'.get? b = some o) (T : Tab h') (B : AllBare gs') : EndSt g L dn wd N n D4 xw xd lv news h₀ ps la m h' gs' :=
  ⟨x.st.lens k T B, x.la.at fun o e => k _ o (by obtain ⟨oa, e1, e2, _⟩ := x.la; exact (x.st.lst e1 e2).2.2) e, fun p hp => ⟨x.st.tupN (.of62 k) (x.pk p hp).1 rfl (x.pk p hp).2.2, (x.pk p hp).2⟩⟩
theorem EndSt.iter (x : EndSt g L dn wd N n D4 xw xd lv news h₀ ps la m h gs) {I : Addr} {o : Obj} {T : String} (e : h.get? I = some o) (c : o.cls = .type T) (nT : T ≠ "tuple" ∧ T ≠ "list" ∧ T ≠ "dict") (hg : g.get? I = none) (hn : ∀ p ∈ news, p.1 ≠ I) (hL : L ≠ I)
    (k : ∀ b o, b ≠ I → h.get? b = some o → h'.get? b = some o) : EndSt g L dn wd N n D4 xw xd lv news h' ps la m h' gs := by
  refine ⟨x.st.iter e c nT hg hn hL k, x.la.at fun o' e' => k _ o' (fun q => ?_) e', fun p hp => ⟨k _ _ (fun q => ?_) (x.pk p hp).1, (x.pk p hp).2⟩⟩
  · obtain ⟨o4, h4, c4, _⟩ := x.la
    rw [q, e] at h4; cases h4
    exact nT.2.1 (Value.type.inj (c.symm.trans c4))
  · have := (x.pk p hp).1
    rw [q, e] at this; cases this
    exact nT.1 (Value.type.inj c).symm
end
theorem pick_idx : ∀ wd : Fin 5, ∀ qq : Fin 4, ∀ k : Fin 4, 2 ≤ wd.val → 2 ≤ qq.val → k.val < wd.val →
    sliceRange (sliceBounds (some (k.val : Int)) none (some (wd.val : Int)) (wd.val * qq.val)).1 (sliceBounds (some (k.val : Int)) none (some (wd.val : Int)) (wd.val * qq.val)).2.1 (sliceBounds (some (k.val : Int)) none (some (wd.val : Int)) (wd.val * qq.val)).2.2 = (List.range qq.val).map fun r => r * wd.val + k.val := by decide +kernel
theorem fm_some {α β : Type} (f : Nat → Option β) (g : Nat → Nat) (d : Nat → β) : ∀ l : List Nat, (∀ r ∈ l, f (g r) = some (d r)) → (l.map g).filterMap f = l.map d
  | [], _ => rfl
  | a :: l, h => by
    rw [List.map_cons, List.filterMap_cons, h a (.head _), List.map_cons]
    simp only
    rw [fm_some (α := α) f g d l fun r hr => h r (.tail _ hr)]
theorem row_lt {wd qq k r : Nat} (hk : k < wd) (hr : r < qq) : r * wd + k < wd * qq := by
  have : (r + 1) * wd ≤ qq * wd := Nat.mul_le_mul_right _ hr
  rw [Nat.succ_mul, Nat.mul_comm qq wd] at this
  omega
theorem pick_row {lv : List Value} {wd qq k : Nat} (hl : lv.length = wd * qq) (h2 : 2 ≤ wd) (h4 : wd ≤ 4) (q2 : 2 ≤ qq) (q3 : qq ≤ 3) (hk : k < wd) :
    slicePick lv.toArray (some (k : Int)) none (some (wd : Int)) = ((List.range qq).map fun r => lv.getD (r * wd + k) .none).toArray := by
  have e := pick_idx ⟨wd, by omega⟩ ⟨qq, by omega⟩ ⟨k, by omega⟩ h2 q2 hk
  unfold slicePick
  rw [List.size_toArray, hl]
  rw [show (sliceRange (sliceBounds (some (k : Int)) none (some (wd : Int)) (wd * qq)).1 (sliceBounds (some (k : Int)) none (some (wd : Int)) (wd * qq)).2.1 (sliceBounds (some (k : Int)) none (some (wd : Int)) (wd * qq)).2.2) = (List.range qq).map fun r => r * wd + k from e]
  rw [fm_some (α := Nat) (fun i => lv.toArray[i]?) (fun r => r * wd + k) (fun r => lv.getD (r * wd + k) .none) (List.range qq) fun r hr => ?_]
  have := row_lt hk (List.mem_range.mp hr)
  show lv.toArray[r * wd + k]? = _
  rw [List.getElem?_toArray, List.getD_eq_getElem?_getD, List.getElem?_eq_getElem (by rw [hl]; exact this)]
  rfl
theorem row_sum (dn : List Int) (wd n k : Nat) : ∀ q, ((List.range q).map fun r => hueA dn n (r * wd + k)).sum = rowSum dn wd n k q
  | 0 => rfl
  | q + 1 => by
    rw [List.range_succ, List.map_append, List.sum_append, row_sum dn wd n k q, rowSum]
    simp
theorem look_row {g h : Heap} {L : Addr} {dn : List Int} {n wd qq k r : Nat} {lv : List Value} {v : Value} (x : LooksAt g h L dn n (wd * qq) lv) (hk : k < wd) (hv : ((List.range qq).map fun r => lv.getD (r * wd + k) .none)[r]? = some v) :
    r < qq ∧ ∃ T t u v', v = .ref T ∧ h.get? T = some (lookObj (hueA dn n (r * wd + k)) (lookShare (dn.getD (2 + (r * wd + k)) 0) n) (lookValue (dn.getD (2 + (r * wd + k)) 0) n) t (u + 1) (v' + 1)) := by
  have hr : r < qq := by
    have := (List.getElem?_eq_some_iff.mp hv).1
    simpa using this
  refine ⟨hr, ?_⟩
  obtain ⟨T, t, u, v', e, _, _, hT⟩ := x.2 _ (row_lt hk hr)
  refine ⟨T, t, u, v', ?_, hT⟩
  rw [List.getElem?_map, List.getElem?_range hr, Option.map_some] at hv
  rw [← Option.some.inj hv, List.getD_eq_getElem?_getD, e]
  rfl
noncomputable def leftVal (dn : List Int) (wd qq n i : Nat) : Int := if i < wd - 1 then Int.fmod (rowSum dn wd n i qq - rowSum dn wd n (wd - 1) qq - aheadOf dn wd n) n else 0
theorem place_of {wd N i : Nat} (hN : wd ≤ N) (hw : 1 ≤ wd) (hi : i < N) : ∃ j, j < N ∧ placeOf wd N j = i ∧ (i < wd - 1 → j = N - (wd - 1) + i) ∧ (¬ i < wd - 1 → j < N - (wd - 1)) := by
  by_cases h : i < wd - 1
  · refine ⟨N - (wd - 1) + i, by omega, ?_, fun _ => rfl, fun h' => absurd h h'⟩
    unfold placeOf; rw [if_neg (by omega)]; omega
  · refine ⟨i - (wd - 1), by omega, ?_, fun h' => absurd h' h, fun _ => by omega⟩
    unfold placeOf; rw [if_pos (by omega)]; omega
theorem final_good (dn : List Int) {wd qq n : Nat} (h2 : 2 ≤ n) (h9 : n ≤ 9) (hw : 2 ≤ wd) (hw4 : wd ≤ 4) (hq : 2 ≤ qq) {i : Nat} (hi : i < wd * qq) :
    Good n (leftVal dn wd qq n i) (lookShare (dn.getD (2 + i) 0) n) (lookValue (dn.getD (2 + i) 0) n) (colAt dn wd (wd * qq) n (wd * qq) i) := by
  have hN : wd ≤ wd * qq := Nat.le_mul_of_pos_right _ (by omega)
  obtain ⟨j, hj, hp, hlo, hhi⟩ := place_of hN (by omega) hi
  have hc := colAt_done dn n (by omega) hN (wd * qq) (Nat.le_refl _) j hj
  rw [hp] at hc
  rw [hc]
  have hb := steps_bd dn (wd * qq) h2 (by omega) hw4 j
  have ht := (turn_good (dn.getD (2 + i) 0) h2 h9 hb.1 hb.2).2
  have e : Int.fmod (lookHue (dn.getD (2 + i) 0) n + stepsAt dn wd (wd * qq) n j) n = leftVal dn wd qq n i := by
    unfold leftVal
    by_cases h : i < wd - 1
    · rw [if_pos h, hlo h]
      exact (law_left dn h2 hw hq h).2
    · rw [if_neg h]
      have := law_red dn h2 hw (hhi h)
      rw [hp] at this
      exact this
  rw [e] at ht
  exact ht
theorem feq_tab : feq (quo 1 2) (quo 1 2) = true ∧ feq (quo 2 2) (quo 2 2) = true ∧ feq (quo 1 4) (quo 1 4) = true ∧ feq (quo 2 4) (quo 2 4) = true ∧ feq (quo 3 4) (quo 3 4) = true ∧ feq (quo 4 4) (quo 4 4) = true := by decide +kernel
theorem feq_share (x : Int) (n : Nat) : feq (lookShare x n) (lookShare x n) = true := by
  rcases look_share x n with e | e <;> rw [e]
  · exact feq_tab.1
  · exact feq_tab.2.1
theorem feq_value (x : Int) (n : Nat) : feq (lookValue x n) (lookValue x n) = true := by
  rcases look_value x n with e | e | e | e <;> rw [e]
  · exact feq_tab.2.2.1
  · exact feq_tab.2.2.2.1
  · exact feq_tab.2.2.2.2.1
  · exact feq_tab.2.2.2.2.2
/-- the state of the last loop -/
structure LastSt (g : Heap) (L : Addr) (dn : List Int) (wd qq n : Nat) (D2 D4 D5 xw xd : Addr) (lv : List Value) (news : List (Addr × Obj)) (ps : List Piece) (la : Addr) (sv : List Value) (m : Str → Option Value) (h : Heap) (gs : Array GenState) : Prop where
  st : EndSt g L dn wd (wd * qq) n D4 xw xd lv news h ps la m h gs
  l5 : h.IsList D5 sv.toArray
  w0 : ∃ t, m "total" = some (.int (totAt dn wd (wd * qq) n (wd * qq)) t)
  w2 : m "ring" = some (.ref D4)
  w3 : m "first" = some (.ref D2)
  w5 : m "sums" = some (.ref D5)
  w6 : ∃ t, m "ahead" = some (.int (aheadOf dn wd n) t)
  wL : m "later" = some (.ref la)
noncomputable def LastJ (g : Heap) (L : Addr) (dn : List Int) (wd qq n : Nat) (D2 D4 D5 xw xd : Addr) (lv : List Value) (news : List (Addr × Obj)) (ps : List Piece) (la : Addr) (sv : List Value) (h : Heap) (gs : Array GenState) : Prop := ∃ m, LastSt g L dn wd qq n D2 D4 D5 xw xd lv news ps la sv m h gs
theorem LastJ.iter {g : Heap} {L : Addr} {dn : List Int} {wd qq n : Nat} {D2 D4 D5 xw xd : Addr} {lv : List Value} {news : List (Addr × Obj)} {ps : List Piece} {la : Addr} {sv : List Value} {h h' : Heap} {gs : Array GenState} (x : LastJ g L dn wd qq n D2 D4 D5 xw xd lv news ps la sv h gs) {I : Addr} {o : Obj} {T : String} (e : h.get? I = some o) (c : o.cls = .type T) (nT : T ≠ "tuple" ∧ T ≠ "list" ∧ T ≠ "dict") (hg : g.get? I = none) (hn : ∀ p ∈ news, p.1 ≠ I) (hL : L ≠ I)
    (k : ∀ b o, b ≠ I → h.get? b = some o → h'.get? b = some o) : LastJ g L dn wd qq n D2 D4 D5 xw xd lv news ps la sv h' gs := by
  obtain ⟨m, y⟩ := x
  refine ⟨m, { y with st := (y.st.iter e c nT hg hn hL k).rebase, l5 := y.l5.at fun o' e' => k _ o' (fun q => ?_) e' }⟩
  obtain ⟨o4, h4, c4, _⟩ := y.l5
  rw [q, e] at h4; cases h4
  exact nT.2.1 (Value.type.inj (c.symm.trans c4))
/-- behind left = .. -/
noncomputable def LeftJ (g : Heap) (L : Addr) (dn : List Int) (wd qq n : Nat) (D2 D4 D5 xw xd : Addr) (lv : List Value) (news : List (Addr × Obj)) (ps : List Piece) (la : Addr) (sv : List Value) (h₀ : Heap) (m₂ : Str → Option Value) (i : Nat) (h : Heap) (gs : Array GenState) : Prop :=
  ∃ m t, EndSt g L dn wd (wd * qq) n D4 xw xd lv news h₀ ps la m h gs ∧ h.IsList D5 sv.toArray ∧ (∀ y u, y ≠ Str.ofString "left" → m₂ y = some u → m y = some u) ∧ m "left" = some (.int (leftVal dn wd qq n i) t)
theorem isList_ne_ns {h : Heap} {D L : Addr} {a : Array Value} {m : Str → Option Value} (x : h.IsList D a) (y : h.Ns L m) : D ≠ L := by
  rintro rfl
  obtain ⟨o, e, _, _, d⟩ := x
  obtain ⟨oL, es, ep, hL, dL, _⟩ := y
  rw [e] at hL; cases hL
  rw [d] at dL; cases dL
theorem map_at {M i : Nat} (f : Nat → Int) (h : i < M) : ((List.range M).map f)[i]? = some (f i) := by rw [List.getElem?_map, List.getElem?_range h]; rfl
theorem booked_up {h h' : Heap} (x : NoneBooked h) (k : ∀ b o, h.get? b = some o → h'.get? b = some o) : NoneBooked h' := let ⟨mc, a, b⟩ := x; ⟨mc, a.keeps k, b⟩
theorem the_words : True := by
  k_with "eval ListComp" => ((with_reducible show wpAny _ _ (eval (Expr.ListComp _ _ _ _) _) _ _ _); refine stop_ ?_)
  k_with "exec Assign cons ListComp" => ((with_reducible show wpAny _ _ (exec (Stmt.Assign [Expr.Name (Str.ofString "first") _] (Expr.ListComp _ _ _ _) _) _) _ _ _); refine stop_ ?_)
  k_with "exec Assign cons ListComp" => ((with_reducible show wpAny _ _ (exec (Stmt.Assign [Expr.Name (Str.ofString "ring") _] (Expr.ListComp _ _ _ _) _) _) _ _ _); refine stop_ ?_)
  k_with "exec Assign cons ListComp" => ((with_reducible show wpAny _ _ (exec (Stmt.Assign [Expr.Name (Str.ofString "sums") _] (Expr.ListComp _ _ _ _) _) _) _ _ _); refine stop_ ?_)
  k_with "binaryOp FloorDiv int int" => (refine PyProof.Rows.floordiv_int (pow_ne (by omega) _) ?_)
  k_with "newTuple" => (refine stop_ ?_)
  k_with "call ref" => ((with_reducible show wpAny _ _ (call (Value.ref _) _) _ _ _); refine stop_ ?_)
  k_with "exec For Name Name cons nil" => (refine stop_ ?_)
  k_with "exec For Name BinOp cons nil" => (refine stop_ ?_)
  k_with "exec For Name Call cons nil" => (refine stop_ ?_)
  k_with "storeName" => ((with_reducible show wpAny _ _ (storeName _ (Str.ofString "window") _) _ _ _); refine stop_ ?_)
  k_with "storeName" => ((with_reducible show wpAny _ _ (storeName _ (Str.ofString "press") _) _ _ _); refine stop_ ?_)
  k_with "storeName" => ((with_reducible show wpAny _ _ (storeName _ (Str.ofString "total") _) _ _ _); refine stop_ ?_)
  k_with "storeName" => ((with_reducible show wpAny _ _ (storeName _ (Str.ofString "later") _) _ _ _); refine stop_ ?_)
  k_with "storeName" => ((with_reducible show wpAny _ _ (storeName _ (Str.ofString "place") _) _ _ _); refine stop_ ?_)
  k_with "storeName" => ((with_reducible show wpAny _ _ (storeName _ (Str.ofString "left") _) _ _ _); refine stop_ ?_)
  k_with "storeName" => ((with_reducible show wpAny _ _ (storeName _ (Str.ofString "told") _) _ _ _); refine stop_ ?_)
  k_with "newList" => (refine stopP (by assumption) ?_)
  k_with "call type:range" => (refine stopP (by assumption) ?_)
  k_with "call type:list" => (refine stopP (by assumption) ?_)
  k_with "binaryOp Add ref ref" => (refine stopP (by assumption) ?_)
  k_with "call builtin:len" => (refine stopP (by assumption) ?_)
  k_with "subscriptTail Name Name ref int" => ((with_reducible show wpAny _ _ (subscriptTail (Expr.Name (Str.ofString "ring") _) _ _ _) _ _ _); refine stopP (by assumption) ?_)
  k_with "setItem ref int ref" => (refine stopP (by assumption) ?_)
  k_with "getMethod ref" => (refine stopP (by assumption) ?_)
  k_with "loadName" => ((with_reducible show wpAny _ _ (loadName _ (Str.ofString "total")) _ _ _); refine stopP (by assumption) ?_)
  k_with "compareOp NotEq ref ref" => (refine stopP (by assumption) ?_)
  k_with "compareOp Eq ref ref" => (refine stopP (by assumption) ?_)
  k_with "subscriptTail Name Slice ref ref" => ((with_reducible show wpAny _ _ (subscriptTail (Expr.Name (Str.ofString "looks") _) _ _ _) _ _ _); refine stopP (by assumption) ?_)
  k_with "subscriptTail Name Name ref int" => ((with_reducible show wpAny _ _ (subscriptTail (Expr.Name (Str.ofString "looks") _) _ _ _) _ _ _); refine stopP (by assumption) ?_)
  k_with "subscriptTail Name Name ref int" => ((with_reducible show wpAny _ _ (subscriptTail (Expr.Name (Str.ofString "sums") _) _ _ _) _ _ _); refine stopP (by assumption) ?_)
  k_with "subscriptTail Name Constant ref int" => (refine stopP (by assumption) ?_)
  k_with "subscriptTail Subscript Constant ref int" => (refine stopP (by assumption) ?_)
  k_with "call builtin:sum" => (refine stopP (by assumption) ?_)
  k_with "subscriptTail Name BinOp ref int" => ((with_reducible show wpAny _ _ (subscriptTail (Expr.Name (Str.ofString "sums") _) _ _ _) _ _ _); refine stopP (by assumption) ?_)
  trivial
structure Hold (P : Prop) : Prop where
  out : P
theorem Hold.step {T : Prop} (p : (P : Prop) ×' (Hold P → T)) (h : Hold p.1) : Hold T := ⟨p.2 h⟩
noncomputable def pk_s1 : (P : Prop) ×' (Hold P → PySem.Challenge.rw_wu0016_01.Holds) := by
  refine' ⟨_, fun zHold => hd ?f⟩
  case f =>
  intro w s₀ s₁ mg mb G Y fa o pm cd doc dV kV ho hd hcd hD hmg hg args vals as hpre hlay hrd hwl hlo
  have KX : (heapB w.params).In s₁.heap := kIn_of Y
  refine Ground.open G ?_
  intro T B D TE TW
  obtain ⟨bm, ob, M⟩ := bmod_of_top T
  wrow_args hpre hlay hrd hwl hlo
  refine enter_call ?_
  w_top on
  have K0 := below_caller (Top.heap T)
  w_call any ho hd hcd hD T F
  rename_i h₁ tk₁ o5 o4 o3 o2 o1 o0 e5 e4 e3 e2 e1 e0 N0 X0
  clear K0 X0 B TE TW hd hcd hD hmg Y

  rename IntsAre _ _ => hI
  rename Heap.IsList _ _ _ => hLs
  rename ¬ _ < _ => hlen
  rename ReadsAllW _ _ _ _ _ _ => hrw
  rename_i ns v1 v2 v3 v4 v5 v6 v7 l vs v10 v11 v12 v13 v14
  have t66 := tab66 (w := w) ((in_tail KX).keeps (fun _ _ e => of_hideAll _ e)) (get62 KX)
  have G1 : Ok w mg mb (hideAll s₁.heap [62]) := ok_base KX (topRead_of T)
  have hNL := G1.t.nolimit
  have hNS := seer_hide (T.seer (by decide +kernel)) (get62 KX)
  have M1 := M.extBut t66.2 extBut_hide
  have F1 : Fr (hideAll s₁.heap [62]) s₁.heap.objs.size h₁ _ := ⟨F.ns, fun b o e => F.keep b o (of_hideAll _ e), by rw [hideAll_size]; exact F.above⟩
  have h62 := F.keep _ _ (get62 KX)
  have N1 : News (hideAll s₁.heap [62]) s₁.heap.objs.size h₁ ((62, tabObj #[]) :: [(s₁.heap.objs.size + 1 + 1 + 1 + 1 + 1 + 1, o5), (s₁.heap.objs.size + 1 + 1 + 1 + 1 + 1, o4), (s₁.heap.objs.size + 1 + 1 + 1 + 1, o3), (s₁.heap.objs.size + 1 + 1 + 1, o2), (s₁.heap.objs.size + 1 + 1, o1), (s₁.heap.objs.size + 1, o0)]) := fun p hp => by
    rcases List.mem_cons.mp hp with rfl | hp
    · exact ⟨h62, Nat.ne_of_lt (Heap.lt_size (get62 KX)), hideAll_none _ (.head _)⟩
    refine ⟨(N0 p hp).1, (N0 p hp).2.1, ?_⟩
    cases q : (hideAll s₁.heap [62]).get? p.1 with
    | none => rfl
    | some o => have := of_hideAll _ q; rw [(N0 p hp).2.2] at this; cases this
  have hl1 : (hideAll s₁.heap [62]).IsList l vs.toArray := hLs.extBut extBut_hide (by
    rintro rfl
    obtain ⟨o, ho, hc, _⟩ := hLs
    rw [get62 KX] at ho; cases ho; cases hc)
  have B1 : AllBare s₁.gens := .of_eq hg
  refine wpAny_mono (Q := fun f s' => f = .ret (.bool true) ∧ (∀ b o, (hideAll s₁.heap [62]).get? b = some o → s'.heap.get? b = some o) ∧ Tab s'.heap ∧ AllBare s'.gens ∧ s'.os = s₁.os) (E := fun _ _ => False) ?_ ?_ ?_
  case refine_3 => exact fun _ _ z => z.elim
  case refine_2 =>
    intro f s' h
    obtain ⟨e, k, t, b, os⟩ := h
    subst e
    refine ⟨.inl ⟨.bool true, .bool true, [], rfl, ?_, .bool true, ?_, ?_⟩, oldK_of t66 k t, os, b⟩
    · exact raisesW_false (by wrow_none_raised)
    · exact postW_of (by wrow_shape) (by wtm_val) (by first | rfl | (str_meet; first | done | w_fin))
    · first | exact unshared_nil | exact fun h => absurd h (by decide)
  have KX' := KX
  clear v1 v2 v3 v4 v5 v6 v7 v10 v11 v12 v13 v14 hrw hLs N0 F T t66 KX M ho hg D G
  have e0' : o0.data = .cell (some (.ref l)) := e0
  have e1' : o1.data = .cell none := e1
  have e2' : o2.data = .cell none := e2
  have e3' : o3.data = .cell none := e3
  have e4' : o4.data = .cell none := e4
  have e5' : o5.data = .cell none := e5
  clear e0 e1 e2 e3 e4 e5
  obtain ⟨m₀, F2⟩ : ∃ m, Fr (hideAll s₁.heap [62]) s₁.heap.objs.size h₁ m := ⟨_, F1⟩
  clear F1
  clear h62
  have hL62 : 62 < s₁.heap.objs.size := Heap.lt_size (get62 KX')
  clear KX'
  revert F2 N1 hl1 G1 hNL hNS M1 hL62
  generalize hideAll s₁.heap [62] = g
  generalize s₁.heap.objs.size = L
  intro G1 hNL hNS M1 N1 hl1 F2 hL62
  repeat (rename_i x; first | clear x | revert x)
  clear s₀ o pm doc
  revert w s₁ mg mb fa cd bm ob ns l vs hI hlen h₁ tk₁ o5 o4 o3 o2 o1 o0 B1 e0' e1' e2' e3' e4' e5' m₀ g L G1 hNL hNS M1 N1 hl1 F2 hL62
  exact zHold.out
noncomputable def pk_s2 : (P : Prop) ×' (Hold P → pk_s1.1) := by
  refine' ⟨_, fun zHold => ?f⟩
  case f =>
  intro w s₁ mg mb fa cd bm ob ns l vs hI hlen h₁ tk₁ o5 o4 o3 o2 o1 o0 B1 e0' e1' e2' e3' e4' e5' m₀ g L G1 hNL hNS M1 N1 hl1 F2 hL62
  w_top on
  obtain ⟨X', T'⟩ := G1
  have hvl : vs.length ≤ 1000 := by rw [hI.length]; omega
  have K0 : Below callerA g [] g := below_caller g
  walk
  refine go_ ?_
  refine eval_comp fun p₂ => ?_
  refine range_comp0 14 (fun i y ob => ob = none ∧ ∃ t, y = .int (drawnAt ns i) t) (by decide) rfl rfl (by decide) rfl (by decide) rfl ?_
  walk
  iterate 2 (rename (none : Option (Addr × Obj)) = some _ => q; cases q)
  · refine ⟨_, _, rfl, fun b o e => ?_⟩
    rename ∀ b o, Heap.get? _ b = some o → Heap.get? _ b = some o => kS
    refine kS b o ?_
    clear kS
    rename ∀ b o, Heap.get? _ b = some o → Heap.get? _ b = some o => kL
    exact kL b o e
  refine go_ (fin_eval ?_)
  intro D h' tk ys hDn hPl hsz hG kD
  rename Fr _ _ _ _ => Fx
  rename News _ _ _ _ => Nx
  obtain ⟨c, hD⟩ := hPl
  have hDi : IntsAre ys.toList ((List.range 14).map (drawnAt ns)) := ints_of_got (by simpa using hsz) (fun i y e => by
    obtain ⟨ob, ⟨_, h⟩, _⟩ := hG i y (by simpa using e); exact h)
  have Fz := frK Fx kD
  have Ny := newsC (o := W.listOf ys.toList.toArray c) Fx Nx kD hDn hD
  have Nz : News g L h' ((D, W.listOf ys.toList.toArray c) :: (62, tabObj #[]) :: (L + 1 + 1 + 1 + 1 + 1 + 1, o5) :: (L + 1 + 1 + 1 + 1 + 1, o4) :: (L + 1 + 1 + 1 + 1, o3) :: [(L + 1 + 1 + 1, o2)]) := fun p hp => Ny p (by
    simp only [List.mem_cons, List.not_mem_nil, or_false] at hp ⊢
    rcases hp with h | h | h | h | h | h <;> simp [h])
  have nD : ∀ p ∈ ((62, tabObj #[]) :: (L + 1 + 1 + 1 + 1 + 1 + 1, o5) :: (L + 1 + 1 + 1 + 1 + 1, o4) :: (L + 1 + 1 + 1 + 1, o3) :: [(L + 1 + 1 + 1, o2)] : List (Addr × Obj)), p.1 ≠ D := fun p hp => newsNe Nx hDn p (by
    simp only [List.mem_cons, List.not_mem_nil, or_false] at hp ⊢
    rcases hp with h | h | h | h | h <;> simp [h])
  have nD1 : 62 ≠ D := nD _ (.head _)
  have nD2 : L + 1 + 1 + 1 + 1 + 1 + 1 ≠ D := nD _ (.tail _ (.head _))
  have nD3 : L + 1 + 1 + 1 + 1 + 1 ≠ D := nD _ (.tail _ (.tail _ (.head _)))
  have nD4 : L + 1 + 1 + 1 + 1 ≠ D := nD _ (.tail _ (.tail _ (.tail _ (.head _))))
  have nD5 : L + 1 + 1 + 1 ≠ D := nD _ (.tail _ (.tail _ (.tail _ (.tail _ (.head _)))))
  clear nD Ny Nx Fx hG hsz hDn kD hD
  have hdl : ((List.range 14).map (drawnAt ns)).length = 14 := rfl
  revert hDi hdl Nz
  generalize ys.toList = dv
  generalize (List.range 14).map (drawnAt ns) = dn
  intro hDi Nz hdl
  clear K0 hl1 hvl hlen hI e0' e1'
  try clear N1
  try clear F2
  try dsimp only
  repeat (rename_i x; first | clear x | revert x)
  clear ns l vs h₁ tk₁ ys o1 o0
  revert w s₁ mg mb fa cd bm ob o5 o4 o3 o2 B1 e2' e3' e4' e5' m₀ g L hNL hNS M1 hL62 X' T' p₂ D h' tk c Fz nD1 nD2 nD3 nD4 nD5 dv dn hDi Nz hdl
  exact zHold.out
noncomputable def pk_s3 : (P : Prop) ×' (Hold P → pk_s2.1) := by
  refine' ⟨_, fun zHold => ?f⟩
  case f =>
  intro w s₁ mg mb fa cd bm ob o5 o4 o3 o2 B1 e2' e3' e4' e5' m₀ g L hNL hNS M1 hL62 X' T' p₂ D h' tk c Fz nD1 nD2 nD3 nD4 nD5 dv dn hDi Nz hdl
  w_top on
  have K0 : Below callerA g [] g := below_caller g
  walk
  refine go_ ?_
  rename Fr _ _ _ _ => F3
  rename News _ _ _ _ => N3
  rename Obj.data _ = Data.cell (some (Value.int (2 + Int.fmod (Int.fdiv _ 6) 8) _)) => dH
  rename Obj.data _ = Data.cell (some (Value.int (2 + Int.fmod _ 3) _)) => dW
  rename Obj.data _ = Data.cell (some (Value.ref _)) => dD
  obtain ⟨wd, qq, n, hw1, hw2, hw3, hq1, hq2, hq3, hn1, hn2, hn3⟩ := params_of (dn.getD (Int.toNat 0) 0)
  obtain ⟨tW, dW⟩ := cell_eq dW hw1
  obtain ⟨tH, dH⟩ := cell_eq dH hn1
  obtain ⟨m₃, hmS0, F4⟩ := abs_size F3
  obtain ⟨tS, hmS⟩ := loc_eq hmS0 hq1
  clear hmS0 F3 hw1 hq1 hn1
  try dsimp only
  refine asg_comp rfl fun p₂ => ?_
  refine range_comp0 (wd - 1) (fun i y ob => ob = none ∧ ∃ t, y = .int (firstAt dn n i) t) (by omega) rfl rfl (by decide) rfl (by decide) rfl ?_
  walk
  · rename IsRange _ _ _ _ _ _ _ _ => hr
    rw [show (wd : Int) - 1 = ((wd - 1 : Nat) : Int) by omega] at hr
    exact hr
  iterate 2 (rename (none : Option (Addr × Obj)) = some _ => q; cases q)
  · exact ⟨_, _, rfl, fun _ _ e => e⟩
  rename Fr _ _ _ _ => Fx
  rename News _ _ _ _ => Nx
  refine go_ (fin_asg rfl rfl Fx.ns ?_)
  intro D2 h2 tk2 ys hDn hPl hsz hG hns kD
  obtain ⟨c2, hD2⟩ := hPl
  have hFi : IntsAre ys.toList ((List.range (wd - 1)).map (firstAt dn n)) := ints_of_got (by simpa using hsz) (fun i y e => by
    obtain ⟨ob, ⟨_, h⟩, _⟩ := hG i y (by simpa using e); exact h)
  obtain ⟨m₅, hmF, hm5, F5, N5, nD2⟩ := after_asg (o := W.listOf ys.toList.toArray c2) Fx Nx hDn hns kD hD2
  have hmS5 := hm5 _ _ (by decide) hmS
  clear hm5 hmS hG hns kD hsz hDn hD2 K0 Fx Nx
  revert hFi N5
  generalize ys.toList = fv
  intro hFi N5
  try dsimp only
  repeat (rename_i x; first | clear x | revert x)
  intro oD dD oW dW oH dH nE N5
  have nE1 : D ≠ D2 := nE _ (.head _)
  have nE2 : 62 ≠ D2 := nE _ (.tail _ (.head _))
  have nE3 : L + 1 + 1 + 1 + 1 + 1 + 1 ≠ D2 := nE _ (.tail _ (.tail _ (.head _)))
  have nE4 : L + 1 + 1 + 1 + 1 + 1 ≠ D2 := nE _ (.tail _ (.tail _ (.tail _ (.head _))))
  have nE5 : L + 1 + 1 + 1 + 1 ≠ D2 := nE _ (.tail _ (.tail _ (.tail _ (.tail _ (.head _)))))
  have nE6 : L + 1 + 1 + 1 ≠ D2 := nE _ (.tail _ (.tail _ (.tail _ (.tail _ (.tail _ (.head _))))))
  clear nE o4 o3 o2 e2' e3' e4' ys p₂ m₀ m₃ h' tk
  revert w s₁ mg mb fa cd bm ob o5 B1 e5' g L hNL hNS M1 hL62 X' T' D c nD1 nD2 nD3 nD4 nD5 dv dn hDi hdl wd qq n hw2 hw3 hq2 hq3 hn2 hn3 tW tH tS D2 h2 tk2 c2 m₅ hmF F5 hmS5 fv hFi oD dD oW dW oH dH N5 nE1 nE2 nE3 nE4 nE5 nE6
  exact zHold.out
noncomputable def pk_s4 : (P : Prop) ×' (Hold P → pk_s3.1) := by
  refine' ⟨_, fun zHold => ?f⟩
  case f =>
  intro w s₁ mg mb fa cd bm ob o5 B1 e5' g L hNL hNS M1 hL62 X' T' D c nD1 nD2 nD3 nD4 nD5 dv dn hDi hdl wd qq n hw2 hw3 hq2 hq3 hn2 hn3 tW tH tS D2 h2 tk2 c2 m₅ hmF F5 hmS5 fv hFi oD dD oW dW oH dH N5 nE1 nE2 nE3 nE4 nE5 nE6
  w_top on
  have K0 : Below callerA g [] g := below_caller g
  walk
  refine go_ ?_
  rename Fr _ _ _ _ => F3
  rename News _ _ _ _ => N3
  obtain ⟨m₆, hmA, hm6, F4⟩ := abs_set F3
  obtain ⟨tA, hmA⟩ := loc_eq hmA (ahead_eq dn hw2)
  have hmF6 := hm6 _ _ (by decide) hmF
  have hmS6 := hm6 _ _ (by decide) hmS5
  clear hm6 hmF hmS5 F3
  try dsimp only
  refine eval_comp fun p₂ => ?_
  refine list_comp0 (fun i m => ∃ v, (∃ x t, dn[2 + i]? = some x ∧ v = .int x t) ∧ m "x" = some v) (LookR dn n) rfl rfl (by decide) rfl (by decide) ?_
  walk
  rename IntsAre _ _ => hI
  rename List Value => wsl
  rename Fr _ _ _ _ => F7
  rename News _ _ _ _ => N7
  have hsz12 : wd * qq ≤ 12 := Nat.le_trans (Nat.mul_le_mul hw3 hq3) (by decide)
  have hcut : min (2 + ((wd * qq : Nat) : Int)).toNat dn.length - 2 = wd * qq := by rw [hdl]; omega
  rw [hcut] at hI
  have hat : ∀ i, i < wd * qq → ((dn.drop 2).take (wd * qq))[i]? = dn[2 + i]? := fun i hi => by rw [List.getElem?_take_of_lt hi, List.getElem?_drop]
  have hlw : ((dn.drop 2).take (wd * qq)).length = wd * qq := by rw [List.length_take, List.length_drop, hdl]; omega
  have hin : ∀ i, i < wd * qq → ∃ x, dn[2 + i]? = some x := fun i hi => ⟨dn[2 + i]'(by omega), List.getElem?_eq_getElem _⟩
  have hl := isList_listOf (N7 _ (.head _)).1
  refine go_ ⟨_, _, rfl, hl, ?_, ?_, ?_, ?_⟩
  · rw [List.size_toArray, hI.length, hlw]; omega
  · refine go_ ?_
    intro C i v s₃ m₃ I j hv hn hit hk
    have hi : i < wd * qq := by
      rw [← hlw, ← hI.length]
      exact (List.getElem?_eq_some_iff.mp (by simpa using hv)).1
    obtain ⟨x, hx⟩ := hin i hi
    obtain ⟨t, ht⟩ := hI.get i x ((hat i hi).trans hx)
    have hv2 : wsl[i]? = some v := by simpa using hv
    have : v = .int x t := Option.some.inj (hv2.symm.trans ht)
    exact has_name (P := fun i v => ∃ x t, dn[2 + i]? = some x ∧ v = .int x t) rfl (lookup_relabel_local rfl) rfl ⟨x, t, hx, this⟩ hn
  · refine go_ ?_
    intro C i s₃ m₃ hi hn hb hk hg ho hC
    obtain ⟨v, ⟨x, t, hx, rfl⟩, hm⟩ := hb
    have hb1 := fm_big (x.fdiv n) (k := 2) (by decide) (by decide)
    have hb2 := fm_big ((x.fdiv n).fdiv 2) (k := 4) (by decide) (by decide)
    walk
    refine go_ ?_
    try dsimp only
    refine newTuple_elt (R := LookR dn n i) (Nat.le_of_ble_eq_true rfl) ?_
    exact ⟨_, x, _, _, _, hx, rfl, rfl⟩
  refine go_ (fin_eval ?_)
  intro D3 h3 tk3 ys hDn hPl hsz hG kD
  obtain ⟨c3, hD3⟩ := hPl
  have hsz2 : ys.size = wd * qq := by rw [hsz, List.size_toArray, hI.length, hlw]
  have Fz := frK F7 kD
  have Ny := newsC (o := W.listOf ys.toList.toArray c3) F7 N7 kD hDn hD3
  have nD := newsNe N7 hDn
  have hGl : ∀ i, i < wd * qq → ∃ T x t u v, dn[2 + i]? = some x ∧ ys.toList[i]? = some (.ref T) ∧ g.get? T = none ∧ T ≠ L ∧ T ≠ D3 ∧ h3.get? T = some (lookObj (lookHue x n) (lookShare x n) (lookValue x n) t (u + 1) (v + 1)) := fun i hi => by
    obtain ⟨ob, ⟨T, x, t, u, v, hx, hy, rfl⟩, hob⟩ := hG i _ (Array.getElem?_eq_getElem (by rw [hsz2]; exact hi))
    obtain ⟨h1, h2, h3⟩ := hob _ rfl
    refine ⟨T, x, t, u, v, hx, by rw [Array.getElem?_toList, Array.getElem?_eq_getElem (by rw [hsz2]; exact hi), hy], ?_, ?_, by simpa using h2, h3⟩
    · cases q : g.get? T with
      | none => rfl
      | some o => rw [F7.keep _ _ q] at h1; cases h1
    · obtain ⟨oL, _, _, hL, _⟩ := F7.ns; exact ne_of_none_some' h1 hL
  have Nz : News g L h3 ((L + 1 + 1 + 1 + 1 + 1 + 1, o5) :: (D3, W.listOf ys.toList.toArray c3) :: (D2, W.listOf fv.toArray c2) :: (62, tabObj #[]) :: (L + 1 + 1 + 1 + 1 + 1, oH) :: [(L + 1 + 1 + 1 + 1, oW)]) := fun p hp => Ny p (by
    simp only [List.mem_cons, List.not_mem_nil, or_false] at hp ⊢
    rcases hp with h | h | h | h | h | h <;> simp [h])
  have nF1 : D2 ≠ D3 := nD _ (.tail _ (.head _))
  have nF2 : L + 1 + 1 + 1 + 1 + 1 + 1 ≠ D3 := nD _ (.tail _ (.tail _ (.tail _ (.tail _ (.head _)))))
  refine storeC Fz Nz e5' ?_ ?_
  · intro p hp
    simp only [List.mem_cons, List.not_mem_nil, or_false] at hp
    rcases hp with rfl | rfl | rfl | rfl | rfl
    · exact Ne.symm nF2
    · exact Ne.symm nE3
    · show (62 : Nat) ≠ _; omega
    · exact Nat.ne_of_lt (Nat.lt_succ_self _)
    · exact Nat.ne_of_lt (Nat.lt_succ_of_lt (Nat.lt_succ_self _))
  intro h4 o6 kC F8 N8 d6
  have hLk : LooksAt g h4 L dn n (wd * qq) ys.toList := by
    refine ⟨by simpa using hsz2, fun i hi => ?_⟩
    obtain ⟨T, x, t, u, v, hx, hy, h1, h2, h3', h4'⟩ := hGl i hi
    have ex : dn.getD (2 + i) 0 = x := by rw [List.getD_eq_getElem?_getD, hx]; rfl
    rw [ex]
    refine ⟨T, t, u, v, hy, h1, h2, kC _ _ ?_ h4'⟩
    rintro rfl
    have := (Nz _ (.head _)).1
    rw [h4'] at this
    have e9 : o5 = lookObj (lookHue x n) (lookShare x n) (lookValue x n) t (u + 1) (v + 1) := (Option.some.inj this).symm
    have e := e5'
    rw [e9] at e
    cases e
  clear hGl hG hsz2 hsz Nz Ny nD kC Fz F7 N7 hDn kD hD3 hI hat hlw hin hl hcut
  revert hLk N8
  generalize ys.toList = lv
  intro N8 hLk
  try dsimp only
  clear K0 e5'
  repeat (rename_i x; first | clear x | revert x)
  clear nD1 nD2 nD3 nD4 nD5 nE1 nE4 nE5 nE6 oD dD D c hDi dv ys o5 m₅ h2 h3 wsl
  revert w s₁ mg mb fa cd bm ob B1 g L hNL hNS M1 hL62 X' T' dn hdl wd qq n hw2 hw3 hq2 hq3 hn2 hn3 tW tH tS D2 tk2 c2 fv hFi oW dW oH dH nE2 nE3 m₆ tA hmA hmF6 hmS6 p₂ hsz12 D3 tk3 c3 nF1 nF2 h4 o6 F8 d6 lv N8 hLk
  exact zHold.out
noncomputable def pk_s5 : (P : Prop) ×' (Hold P → pk_s4.1) := by
  refine' ⟨_, fun zHold => ?f⟩
  case f =>
  intro w s₁ mg mb fa cd bm ob B1 g L hNL hNS M1 hL62 X' T' dn hdl wd qq n hw2 hw3 hq2 hq3 hn2 hn3 tW tH tS D2 tk2 c2 fv hFi oW dW oH dH nE2 nE3 m₆ tA hmA hmF6 hmS6 p₂ hsz12 D3 tk3 c3 nF1 nF2 h4 o6 F8 d6 lv N8 hLk
  w_top on
  have K0 : Below callerA g [] g := below_caller g
  walk
  refine go_ ?_
  refine asg_comp rfl fun p₂ => ?_
  refine list_comp0 (LookBd dn n) (RingR dn n) rfl rfl (by decide) rfl (by decide) ?_
  walk
  rename Fr _ _ _ _ => F9
  rename News _ _ _ _ => N9
  have hl := isList_listOf (N9 _ (.tail _ (.head _))).1
  refine go_ ⟨_, _, rfl, hl, ?_, ?_, ?_, ?_⟩
  · rw [List.size_toArray, hLk.1]; omega
  · refine go_ ?_
    intro C i v s₃ m₃ I j hv hn hit hk
    have hv2 : lv[i]? = some v := by simpa using hv
    have hi : i < wd * qq := by rw [← hLk.1]; exact (List.getElem?_eq_some_iff.mp hv2).1
    obtain ⟨T, t, u, v', e1, e2, e3, e4⟩ := hLk.2 i hi
    obtain rfl : v = .ref T := Option.some.inj (hv2.symm.trans e1)
    refine has_tup3 ?_ ?_ ?_ ?_ ?_ ?_ ?_ ?_ ?_ (hk _ _ e4) rfl rfl hit hn fun m b1 b2 b3 => ⟨_, _, _, b1, b2, b3⟩
    all_goals first | rfl | decide
  · refine go_ ?_
    intro C i s₃ m₃ hi hn hb hk hg ho hC
    obtain ⟨t, u, v, b1, b2, b3⟩ := hb
    have hbig : (lookHue (dn.getD (2 + i) 0) n).natAbs < 2 ^ 1023 := by
      obtain ⟨k, hk, e⟩ := look_hue (dn.getD (2 + i) 0) hn2
      exact lt_big (by omega) (by omega)
    walk
    rename Fr _ _ _ _ => Fe
    refine go_ (hsv_ok (look_ok _ hn2 hn3) (okF X' T' Fe) (by decide) ?_)
    intro a t1 t2 t3 h' tk' k hnone hget
    exact ⟨⟨_, ⟨a, t1, t2, t3, rfl, rfl⟩, fun p e => by cases e; exact ⟨hnone, hget⟩⟩, _, _, rfl, k⟩
  refine go_ (fin_asg rfl rfl F9.ns ?_)
  intro D4 h5 tk5 ys hDn hPl hsz hG hns kD
  obtain ⟨c4, hD4⟩ := hPl
  obtain ⟨hRg, hRD⟩ := ring_of F9 (by rw [hsz, List.size_toArray, hLk.1]) hG
  obtain ⟨m₇, hmR, hm7, F10, N10, nR⟩ := after_asg (o := W.listOf ys.toList.toArray c4) F9 N9 hDn hns kD hD4
  have hmA7 := hm7 _ _ (by decide) hmA
  have hmF7 := hm7 _ _ (by decide) hmF6
  have hmS7 := hm7 _ _ (by decide) hmS6
  have hLk := hLk.keep fun b o hb _ e => kD b o hb e
  have nR1 : L + 1 + 1 + 1 + 1 + 1 + 1 ≠ D4 := nR _ (.head _)
  have nR2 : D3 ≠ D4 := nR _ (.tail _ (.head _))
  have nR3 : D2 ≠ D4 := nR _ (.tail _ (.tail _ (.head _)))
  have nR4 : 62 ≠ D4 := nR _ (.tail _ (.tail _ (.tail _ (.head _))))
  clear hm7 hmA hmF6 hmS6 hG hns kD hsz hDn hD4 F9 N9 hl K0
  revert hRg hRD N10
  generalize ys.toList = rv
  intro hRg hRD N10
  try dsimp only
  repeat (rename_i x; first | clear x | revert x)
  clear hRD nR2 nR3 nR4 tk2 m₆ tk3 h4 p₂ ys
  revert w s₁ mg mb fa cd bm ob B1 g L hNL hNS M1 hL62 X' T' dn hdl wd qq n hw2 hw3 hq2 hq3 hn2 hn3 tW tH tS D2 c2 fv hFi oW dW oH dH nE2 nE3 tA hsz12 D3 c3 nF1 nF2 o6 d6 lv D4 h5 tk5 c4 m₇ hmR F10 nR hmA7 hmF7 hmS7 hLk nR1 rv hRg N10
  exact zHold.out
noncomputable def pk_s6 : (P : Prop) ×' (Hold P → pk_s5.1) := by
  refine' ⟨_, fun zHold => ?f⟩
  case f =>
  intro w s₁ mg mb fa cd bm ob B1 g L hNL hNS M1 hL62 X' T' dn hdl wd qq n hw2 hw3 hq2 hq3 hn2 hn3 tW tH tS D2 c2 fv hFi oW dW oH dH nE2 nE3 tA hsz12 D3 c3 nF1 nF2 o6 d6 lv D4 h5 tk5 c4 m₇ hmR F10 nR hmA7 hmF7 hmS7 hLk nR1 rv hRg N10
  w_top on
  have K0 : Below callerA g [] g := below_caller g
  walk
  rename Fr _ _ _ _ => F11
  refine go_ (make_ok (h₀ := g) ⟨X', T'⟩ F11.keep (Nat.le_trans F11.above (Nat.le_of_lt F11.ns.lt)) (by decide) ?_)
  intro xw xd hh kt nw ep h6 tk6 k6 hx0 hd0 hdx hle hx hd
  have Fw := frK F11 k6
  have Nw := newsK N10 k6
  have gx : g.get? xw = none := by
    cases q : g.get? xw with
    | none => rfl
    | some o => have := F11.keep _ _ q; rw [hx0] at this; cases this
  have gd : g.get? xd = none := by
    cases q : g.get? xd with
    | none => rfl
    | some o => have := F11.keep _ _ q; rw [hd0] at this; cases this
  have xL : xw ≠ L := by obtain ⟨oL, _, _, hL, _⟩ := F11.ns; exact ne_of_none_some' hx0 hL
  have dL : xd ≠ L := by obtain ⟨oL, _, _, hL, _⟩ := F11.ns; exact ne_of_none_some' hd0 hL
  have nX := newsNe N10 hx0
  have nXd := newsNe N10 hd0
  have hLk := hLk.keep fun b o _ _ e => k6 b o e
  have hRg := hRg.keep fun b o _ _ e => k6 b o e
  clear F11 N10
  walk
  refine go_ (storeL Fw Nw ?_)
  intro h7 k7 F12 N12
  clear Fw Nw
  walk
  obtain ⟨m₈, hmW, hm8, F13⟩ := abs_set F12
  have hmR8 := hm8 _ _ (by decide) hmR
  have hmF8 := hm8 _ _ (by decide) hmF7
  have hmS8 := hm8 _ _ (by decide) hmS7
  have hmA8 := hm8 _ _ (by decide) hmA7
  have hx7 := k7 _ _ xL hx
  have hd7 := k7 _ _ dL hd
  have hLk7 := hLk.keep fun b o hb _ e => k7 b o hb e
  have hRg7 := hRg.keep fun b o hb _ e => k7 b o hb e
  clear hLk hRg
  clear hLk hRg hx hd hx0 hd0 hle k6 k7 hm8 hmR hmF7 hmS7 hmA7 F12 K0
  try dsimp only
  repeat (rename_i x; first | clear x | revert x)
  clear h5 h6 m₇ tk5 tk6
  revert w s₁ mg mb fa cd bm ob B1 g L hNL hNS M1 hL62 X' T' dn hdl wd qq n hw2 hw3 hq2 hq3 hn2 hn3 tW tH tS D2 c2 fv hFi oW dW oH dH nE2 nE3 tA hsz12 D3 c3 nF1 nF2 o6 d6 lv D4 c4 nR nR1 rv xw xd hh kt nw ep hdx gx gd xL dL nX nXd h7 N12 tk m₈ hmW F13 hmR8 hmF8 hmS8 hmA8 hx7 hd7 hLk7 hRg7
  exact zHold.out
noncomputable def pk_s7 : (P : Prop) ×' (Hold P → pk_s6.1) := by
  refine' ⟨_, fun zHold => ?f⟩
  case f =>
  intro w s₁ mg mb fa cd bm ob B1 g L hNL hNS M1 hL62 X' T' dn hdl wd qq n hw2 hw3 hq2 hq3 hn2 hn3 tW tH tS D2 c2 fv hFi oW dW oH dH nE2 nE3 tA hsz12 D3 c3 nF1 nF2 o6 d6 lv D4 c4 nR nR1 rv xw xd hh kt nw ep hdx gx gd xL dL nX nXd h7 N12 tk m₈ hmW F13 hmR8 hmF8 hmS8 hmA8 hx7 hd7 hLk7 hRg7
  w_top on
  have ph : Phase := trivial
  have hlF : h7.IsList D2 fv.toArray := isList_listOf (N12 _ (.tail _ (.tail _ (.tail _ (.head _))))).1
  refine wpAny_For (ldLoc F13.ns hmF8 (wpAny_pyIter_list hlF ?_))
  have hD2 : D2 < h7.objs.size := by obtain ⟨_, e, _⟩ := hlF; exact Heap.lt_size e
  have h66L : 66 < L := Nat.lt_of_lt_of_le (lt66 X') F13.above
  have h62g := N12 _ (.tail _ (.tail _ (.tail _ (.tail _ (.head _)))))
  have hTab : Tab h7 := by
    have t := tab66 (w := w) (X'.keeps F13.keep) h62g.1
    exact ⟨_, t.1, t.2⟩
  have hAp : Apart g L D4 xw xd [(L + 1 + 1 + 1 + 1 + 1 + 1, o6), (D3, W.listOf lv.toArray c3), (D2, W.listOf fv.toArray c2), (L + 1 + 1 + 1 + 1 + 1, oH), (L + 1 + 1 + 1 + 1, oW)] := by
    have hc : ∀ p ∈ ([(L + 1 + 1 + 1 + 1 + 1 + 1, o6), (D3, W.listOf lv.toArray c3), (D2, W.listOf fv.toArray c2), (L + 1 + 1 + 1 + 1 + 1, oH), (L + 1 + 1 + 1 + 1, oW)] : List (Addr × Obj)), p ∈ ((D4, W.listOf rv.toArray c4) :: (L + 1 + 1 + 1 + 1 + 1 + 1, o6) :: (D3, W.listOf lv.toArray c3) :: (D2, W.listOf fv.toArray c2) :: (62, tabObj #[]) :: (L + 1 + 1 + 1 + 1 + 1, oH) :: [(L + 1 + 1 + 1 + 1, oW)] : List (Addr × Obj)) := fun p hp => by
      simp only [List.mem_cons, List.not_mem_nil, or_false] at hp ⊢
      rcases hp with h | h | h | h | h <;> simp [h]
    have hl : ∀ k, L + k ≠ 62 := fun k => by show (L + k : Nat) ≠ 62; omega
    refine { gx := gx, gd := gd, g4 := (N12 _ (.head _)).2.2, g62 := h62g.2.2, g66 := ?_, xL := xL, dL := dL, rL := (N12 _ (.head _)).2.1, tL := h62g.2.1, hL := Nat.ne_of_lt h66L, xe := (Nat.ne_of_gt hdx), xr := Ne.symm (nX _ (.head _)), xt := ?_, dr := Ne.symm (nXd _ (.head _)), dt := ?_, rt := ?_, nx := fun p hp => nX p (hc p hp), nd := fun p hp => nXd p (hc p hp), nr := fun p hp => nR p ?_, nt := ?_ }
    · have e : ((Mine.hd.heap_39 w.params).lookup 66).map codeChk = some true := by kernel_rfl
      obtain ⟨o, e1, e2⟩ := Option.map_eq_some_iff.mp e
      exact ⟨o, X' _ _ e1⟩
    · exact Ne.symm (nX _ (.tail _ (.tail _ (.tail _ (.tail _ (.head _))))))
    · exact Ne.symm (nXd _ (.tail _ (.tail _ (.tail _ (.tail _ (.head _))))))
    · intro q
      have a := (N12 _ (.head _)).1
      dsimp only at a
      rw [q, h62g.1] at a; cases a
    · simp only [List.mem_cons, List.not_mem_nil, or_false] at hp ⊢
      rcases hp with h | h | h | h | h <;> simp [h]
    · intro p hp
      simp only [List.mem_cons, List.not_mem_nil, or_false] at hp
      rcases hp with rfl | rfl | rfl | rfl | rfl
      · exact hl 6
      · intro q
        have a := (N12 _ (.tail _ (.tail _ (.head _)))).1
        dsimp only at a q
        rw [q, h62g.1] at a; cases a
      · intro q
        have a := (N12 _ (.tail _ (.tail _ (.tail _ (.head _))))).1
        dsimp only at a q
        rw [q, h62g.1] at a; cases a
      · exact hl 5
      · exact hl 4
  have S0 : LawS g L dn n (wd * qq) D4 xw xd lv [(L + 1 + 1 + 1 + 1 + 1 + 1, o6), (D3, W.listOf lv.toArray c3), (D2, W.listOf fv.toArray c2), (L + 1 + 1 + 1 + 1 + 1, oH), (L + 1 + 1 + 1 + 1, oW)] h7 m₈ (fun i => colour (dn.getD (2 + i) 0) n) [] (aheadOf dn wd n) h7 s₁.gens :=
    { ap := hAp, fr := F13, ring := ⟨rv, isList_listOf (N12 _ (.head _)).1, hRg7⟩, looks := hLk7, win := ⟨_, hx7⟩, size := ⟨_, _, _, _, hd7⟩, pcs := (by intro p hp; cases hp), tab := hTab, bare := B1, since := fun _ _ _ _ _ _ _ e => e,
      news := fun p hp => N12 p (by
        simp only [List.mem_cons, List.not_mem_nil, or_false] at hp ⊢
        rcases hp with h | h | h | h | h <;> simp [h]) }
  have hgI : g.get? h7.objs.size = none := by
    cases q : g.get? h7.objs.size with
    | none => rfl
    | some o => exact absurd (Heap.lt_size (F13.keep _ _ q)) (Nat.lt_irrefl _)
  have hLI : L ≠ h7.objs.size := by obtain ⟨oL, _, _, hL, _⟩ := F13.ns; exact Nat.ne_of_lt (Heap.lt_size hL)
  have hnI : ∀ p ∈ ([(L + 1 + 1 + 1 + 1 + 1 + 1, o6), (D3, W.listOf lv.toArray c3), (D2, W.listOf fv.toArray c2), (L + 1 + 1 + 1 + 1 + 1, oH), (L + 1 + 1 + 1 + 1, oW)] : List (Addr × Obj)), p.1 ≠ h7.objs.size := fun p hp => Nat.ne_of_lt (Heap.lt_size (S0.news p hp).1)
  have hfpN : ∀ b ∈ [h7.objs.size, D2], b ∉ [L, xw, xd, D4, 62] := by
    intro b hb
    have m1 := nX _ (.tail _ (.tail _ (.tail _ (.head _))))
    have m2 := nXd _ (.tail _ (.tail _ (.tail _ (.head _))))
    have m3 := hAp.nr _ (.tail _ (.tail _ (.head _)))
    have m4 := hAp.nt _ (.tail _ (.tail _ (.head _)))
    have m5 := (N12 _ (.tail _ (.tail _ (.tail _ (.head _))))).2.1
    have i1 : xw ≠ h7.objs.size := Nat.ne_of_lt (Heap.lt_size hx7)
    have i2 : xd ≠ h7.objs.size := Nat.ne_of_lt (Heap.lt_size hd7)
    have i3 : D4 ≠ h7.objs.size := Nat.ne_of_lt (Heap.lt_size (N12 _ (.head _)).1)
    have i4 : 62 ≠ h7.objs.size := Nat.ne_of_lt (Heap.lt_size h62g.1)
    simp only [List.mem_cons, List.not_mem_nil, or_false, not_or] at hb ⊢
    rcases hb with rfl | rfl
    · exact ⟨Ne.symm hLI, Ne.symm i1, Ne.symm i2, Ne.symm i3, Ne.symm i4⟩
    · exact ⟨m5, m1, m2, m3, m4⟩
  have S0' := (S0.keep (h' := h7.push { cls := .type "list_iterator", data := .fields #[.ref D2, .int 0 0] }) fun b o e => Heap.get?_push_of_some _ e).rebase
  have hI0 : (h7.push { cls := .type "list_iterator", data := .fields #[.ref D2, .int 0 0] }).get? h7.objs.size = some { cls := .type "list_iterator", data := .fields #[.ref D2, .int 0 0] } := Heap.get?_push_size _ rfl
  clear hAp hx7 hd7 hLk7 hRg7 hTab N12 nX nXd nR nR1 nF1 nF2 nE2 nE3 hlF S0 h62g h66L
  refine for_walk (Walks.list rfl h7.objs.size D2 (by rintro rfl; exact Nat.lt_irrefl _ hD2) fv.toArray) [L, xw, xd, D4, 62] hfpN
    (fun i s' => ∃ m ps, LawS g L dn n (wd * qq) D4 xw xd lv [(L + 1 + 1 + 1 + 1 + 1 + 1, o6), (D3, W.listOf lv.toArray c3), (D2, W.listOf fv.toArray c2), (L + 1 + 1 + 1 + 1 + 1, oH), (L + 1 + 1 + 1 + 1, oW)] s'.heap m (fun i => colour (dn.getD (2 + i) 0) n) ps (aheadOf dn wd n) s'.heap s'.gens ∧ s'.os = s₁.os ∧ m "window" = some (.ref xw) ∧ m "ring" = some (.ref D4) ∧ m "first" = some (.ref D2) ∧ (∃ t, m "size" = some (.int ((wd * qq : Nat) : Int) t)) ∧ (∃ t, m "ahead" = some (.int (aheadOf dn wd n) t)) ∧
      PiecesAre ps ((List.range i).map (firstAt dn n))) ?_ ?_ ?_ ?_ ?_
  · exact ⟨⟨_, hI0, rfl, rfl⟩, (isList_listOf (S0'.news _ (.tail _ (.tail _ (.head _)))).1)⟩
  · exact ⟨m₈, [], S0', rfl, hmW, hmR8, hmF8, ⟨_, hmS8⟩, ⟨_, hmA8⟩, rfl⟩
  · rintro i s h' tk ⟨m, ps, hS, h2⟩ ⟨⟨o, e, c, _⟩, _⟩ hk
    exact ⟨m, ps, hS.iter e c ⟨by decide, by decide, by decide⟩ hgI hnI hLI hk, h2⟩
  · intro i v sx hi hv hJ
    obtain ⟨m, ps, hS, hos, w1, w2, w3, ⟨tz, w4⟩, ⟨ta, w6⟩, hp⟩ := hJ
    obtain ⟨hi', tv, rfl⟩ := range_at hFi (show fv[i]? = some v by simpa using hv)
    have hb := first_bd dn hn2 i
    have hb0 := hb.1
    have hb1 : firstAt dn n i < 20 := by omega
    obtain ⟨hpx, gx', drx, tkx, osx⟩ := sx
    obtain rfl : osx = s₁.os := hos
    refine wpAny_assign_Name (storeL hS.fr hS.news ?_)
    intro h8 k8 F14 N14
    obtain ⟨m2, wP, hm2, F15⟩ := abs_set F14
    have w1' := hm2 _ _ (by decide) w1
    have w2' := hm2 _ _ (by decide) w2
    have w3' := hm2 _ _ (by decide) w3
    have w4' := hm2 _ _ (by decide) w4
    have w6' := hm2 _ _ (by decide) w6
    clear F14
    have S2 := hS.local F15.ns k8
    clear w1 w2 w3 w4 w6 hm2 hv k8
    dsimp only at S2 hS
    clear hS
    walk
    obtain ⟨ep9, hw9⟩ := S2.win
    obtain ⟨hh9, kt9, tz9, k9, hs9⟩ := S2.size
    refine go_ (method_bi (K := Mine.hd.heap_39 w.params) (f := .ref 45) (t := .type "function") (X'.keeps S2.fr.keep) (win_at hw9 hs9) (ga := "list.__getattribute__") (by k_is) (by decide +kernel) (by k_is) (by k_is) (by k_is) (by decide) (shadow_of (by decide)) ?_)
    walk
    refine go_ (push_ok (h₀ := g) ⟨X', T'⟩ S2.fr.keep hw9 S2.ap.gx hs9 S2.ap.gd S2.ap.xe (by decide) (by rw [List.length_map, pieces_len hp]; simp; omega) ?_)
    intro a ep' h9 tk9 k9' hn9 hx9 ha9
    have S3 := S2.pushed (p := (a, (blanks (firstAt dn n i), _), (Str.ofString "", _))) k9' hn9 hx9 ha9
    have hq : ∀ t u, PiecesAre (ps ++ [(a, (blanks (firstAt dn n i), t), (Str.ofString "", u))]) ((List.range (i + 1)).map (firstAt dn n)) := fun t u => by
      rw [List.range_succ, List.map_append]; exact pieces_push hp
    dsimp only
    walk
    · exact S3.rebase
    · exact hq _ _
    · exact S3.mu _ _ (by assumption) (by assumption)
  intro s' hJ
  obtain ⟨m, ps, hS, hos, w1, w2, w3, ⟨tz, w4⟩, ⟨ta, w6⟩, hp⟩ := hJ
  obtain ⟨hpx, gx', drx, tkx, osx⟩ := s'
  obtain rfl : osx = s₁.os := hos
  have hp : PiecesAre ps ((List.range (wd - 1)).map (firstAt dn n)) := by
    have e : fv.toArray.size = wd - 1 := by rw [List.size_toArray, hFi.length]; simp
    rw [e] at hp; exact hp
  clear S0' hI0 hfpN hnI hLI hgI hD2 F13 hmW hmR8 hmF8 hmS8 hmA8 hsz12 gx gd hdx xL dL
  dsimp only at hS
  dsimp only
  repeat (rename_i x; first | clear x | revert x)
  clear h7 m₈ tk rv c4
  revert w s₁ mg mb fa cd bm ob B1 g L hNL hNS M1 hL62 X' T' dn hdl wd qq n hw2 hw3 hq2 hq3 hn2 hn3 tW tH tS D2 c2 fv hFi oW dW oH dH tA D3 c3 o6 d6 lv D4 xw xd hh kt nw ep ph m ps w1 w2 w3 tz w4 ta w6 hpx gx' drx tkx hS hp
  exact zHold.out
noncomputable def pk_s8 : (P : Prop) ×' (Hold P → pk_s7.1) := by
  refine' ⟨_, fun zHold => ?f⟩
  case f =>
  intro w s₁ mg mb fa cd bm ob B1 g L hNL hNS M1 hL62 X' T' dn hdl wd qq n hw2 hw3 hq2 hq3 hn2 hn3 tW tH tS D2 c2 fv hFi oW dW oH dH tA D3 c3 o6 d6 lv D4 xw xd hh kt nw ep ph m ps w1 w2 w3 tz w4 ta w6 hpx gx' drx tkx hS hp
  w_top on
  have F13 := hS.fr
  have N13 := hS.news
  walk
  refine go_ (storeL F13 N13 ?_)
  intro h8 k8 F14 N14
  obtain ⟨m2, wT, hm2, F15⟩ := abs_set F14
  have w1' := hm2 _ _ (by decide) w1
  have w2' := hm2 _ _ (by decide) w2
  have w3' := hm2 _ _ (by decide) w3
  have w4' := hm2 _ _ (by decide) w4
  have w6' := hm2 _ _ (by decide) w6
  clear F14 F13 N13
  have S2 := (hS.local F15.ns k8).rebase
  clear F15
  have F15 := S2.fr
  clear w1 w2 w3 w4 w6 hm2 k8 hS
  walk
  refine go_ (newList0 ?_)
  have S3 := S2.keep (h' := h8.push (W.listOf ([] : List Value).toArray 0)) fun b o e => Heap.get?_push_of_some _ e
  have hl0 : (h8.push (W.listOf ([] : List Value).toArray 0)).get? h8.objs.size = some (W.listOf ([] : List Value).toArray 0) := Heap.get?_push_size _ rfl
  have lL : h8.objs.size ≠ L := fun q => by
    obtain ⟨oL, _, _, hL, _⟩ := S2.fr.ns
    have := Heap.lt_size hL
    rw [q] at this; exact Nat.lt_irrefl _ this
  clear F15 N14
  have F15 := S3.fr
  have N15 := S3.news
  clear S2
  dsimp only
  revert S3 hl0 lL F15 N15
  generalize h8.push (W.listOf ([] : List Value).toArray 0) = h9
  generalize h8.objs.size = la
  intro S3 hl0 lL F15 N15
  walk
  refine go_ (storeL F15 N15 ?_)
  intro h10 k10 F16 N16
  obtain ⟨m3, wL, hm3, F17⟩ := abs_set F16
  have w0 := hm3 _ _ (by decide) wT
  have w1 := hm3 _ _ (by decide) w1'
  have w2 := hm3 _ _ (by decide) w2'
  have w3 := hm3 _ _ (by decide) w3'
  have w4 := hm3 _ _ (by decide) w4'
  have w6 := hm3 _ _ (by decide) w6'
  have hla := k10 _ _ lL hl0
  have S4 := (S3.local F17.ns k10).rebase
  clear w1' w2' w3' w4' w6' wT hm3 k10 S3 F15 N15 F16 F17 N16 hl0 lL
  have F := S4.fr
  have N := S4.news
  walk
  refine go_ (wpAny_For ?_)
  walk
  refine go_ (call_range_2 ?_)
  have hr := IsRange.new h10 ((wd : Int) - 1) ((wd * qq : Nat) : Int) 1 (tkx + 1 + 1 + 1 + 1) tz (tkx + 1 + 1 + 1 + 1 + 1)
  revert hr
  try dsimp only
  have kP : ∀ b o, h10.get? b = some o → (h10.push { cls := .type "range", data := .fields #[.int ((wd : Int) - 1) (tkx + 1 + 1 + 1 + 1), .int ((wd * qq : Nat) : Int) tz, .int 1 (tkx + 1 + 1 + 1 + 1 + 1)] }).get? b = some o := fun b o e => Heap.get?_push_of_some _ e
  revert kP
  generalize h10.push { cls := .type "range", data := .fields #[.int ((wd : Int) - 1) (tkx + 1 + 1 + 1 + 1), .int ((wd * qq : Nat) : Int) tz, .int 1 (tkx + 1 + 1 + 1 + 1 + 1)] } = h11
  intro kP hr
  rename Fr _ _ _ _ => Fo
  have S5 := S4.keep kP
  replace hla := kP _ _ hla
  clear Fo N kP S4
  have F := S5.fr
  have N := S5.news
  have hN4 : wd ≤ wd * qq := Nat.le_mul_of_pos_right _ (by omega)
  have hN12 : wd * qq ≤ 12 := Nat.le_trans (Nat.mul_le_mul hw3 hq3) (by decide)
  walk
  refine go_ (call_list_range (n := wd * qq - (wd - 1)) rfl hr (small_one (by omega) (by omega) (by omega) (by omega)) (by rw [rangeSize_one]; split <;> omega) (by omega) ?_)
  intro h12 tk12 acc c' k12 hl12 hi12
  rename Fr _ _ _ _ => Fo
  replace hla := k12 _ _ hla
  have S6 := S5.keep k12
  clear Fo N S5 hr k12
  have hlA : h12.IsList h11.objs.size acc.toList.toArray := ⟨_, hl12, rfl, _, rfl⟩
  clear hl12
  revert hlA
  generalize h11.objs.size = lA
  intro hlA
  have F := S6.fr
  have N := S6.news
  dsimp only
  walk
  refine go_ (range1K ?_)
  intro rB h13 tk13 tr1 tr2 tr3 k13 hrB
  replace hla := k13 _ _ hla
  replace hlA := hlA.at fun o e => k13 _ o e
  have S7 := S6.keep k13
  clear F N S6 k13
  have F := S7.fr
  have N := S7.news
  dsimp only
  walk
  refine go_ (listK (n := wd - 1) rfl hrB (small_one (by omega) (by omega) (by omega) (by omega)) (by rw [rangeSize_one]; split <;> omega) (by omega) ?_)
  intro lB h14 tk14 acc2 k14 hlB hi14
  replace hla := k14 _ _ hla
  replace hlA := hlA.at fun o e => k14 _ o e
  rename Fr _ _ _ _ => Fo
  have S8 := S7.keep k14
  clear Fo N S7 k14 hrB
  have F := S8.fr
  have N := S8.news
  dsimp only
  walk
  refine go_ (catK hlA hlB (by have := hi12.1; have := hi14.1; simp only [Array.length_toList]; omega) ?_)
  intro lC h15 hnC k15 hlC
  have hfC := S8.newMu hnC
  clear hnC
  obtain ⟨hcl, hca⟩ := places_of (by omega) hN4 hi12 hi14
  replace hla := k15 _ _ hla
  rename Fr _ _ _ _ => Fo
  have S9 := (S8.keep k15).rebase
  clear Fo N S8 k15 hlA hlB hi12 hi14
  revert hcl hca hlC
  generalize acc.toList ++ acc2.toList = pl
  intro hlC hcl hca
  dsimp only
  clear acc acc2 c'
  repeat (rename_i x; first | clear x | revert x)
  (try dsimp only at w0)
  clear h8 h9 h10 h11 h12 h13 h14 tk12 tk13 tr1 tr2 tr3 rB lA lB hpx m2 m
  revert w s₁ mg mb fa cd bm ob B1 g L hNL hNS M1 hL62 X' T' dn hdl wd qq n hw2 hw3 hq2 hq3 hn2 hn3 tW tH tS D2 c2 fv hFi oW dW oH dH tA D3 c3 o6 d6 lv D4 xw xd hh kt nw ep ph ps tz ta gx' drx tkx hp la m3 wL w0 w1 w2 w3 w4 w6 hN4 hN12 tk14 lC h15 hfC hla S9 pl hlC hcl hca
  exact zHold.out
noncomputable def pk_s9 : (P : Prop) ×' (Hold P → pk_s8.1) := by
  refine' ⟨_, fun zHold => ?f⟩
  case f =>
  intro w s₁ mg mb fa cd bm ob B1 g L hNL hNS M1 hL62 X' T' dn hdl wd qq n hw2 hw3 hq2 hq3 hn2 hn3 tW tH tS D2 c2 fv hFi oW dW oH dH tA D3 c3 o6 d6 lv D4 xw xd hh kt nw ep ph ps tz ta gx' drx tkx hp la m3 wL w0 w1 w2 w3 w4 w6 hN4 hN12 tk14 lC h15 hfC hla S9 pl hlC hcl hca
  w_top on
  have hlC' := hlC
  obtain ⟨oC, hoC, hcC, _⟩ := hlC'
  have hC1 : lC < h15.objs.size := Heap.lt_size hoC
  refine wpAny_pyIter_list hlC ?_
  have hgI : g.get? h15.objs.size = none := by
    cases q : g.get? h15.objs.size with
    | none => rfl
    | some o => exact absurd (Heap.lt_size (S9.fr.keep _ _ q)) (Nat.lt_irrefl _)
  have hLI : L ≠ h15.objs.size := by obtain ⟨oL, _, _, hL, _⟩ := S9.fr.ns; exact Nat.ne_of_lt (Heap.lt_size hL)
  have hnI : ∀ p ∈ ([(L + 1 + 1 + 1 + 1 + 1 + 1, o6), (D3, W.listOf lv.toArray c3), (D2, W.listOf fv.toArray c2), (L + 1 + 1 + 1 + 1 + 1, oH), (L + 1 + 1 + 1 + 1, oW)] : List (Addr × Obj)), p.1 ≠ h15.objs.size := fun p hp => Nat.ne_of_lt (Heap.lt_size (S9.news p hp).1)
  have kI : ∀ b o, h15.get? b = some o → (h15.push { cls := .type "list_iterator", data := .fields #[.ref lC, .int 0 0] }).get? b = some o := fun b o e => Heap.get?_push_of_some _ e
  have hI0 : (h15.push { cls := .type "list_iterator", data := .fields #[.ref lC, .int 0 0] }).get? h15.objs.size = some { cls := .type "list_iterator", data := .fields #[.ref lC, .int 0 0] } := Heap.get?_push_size _ rfl
  have hM0 : MainJ g L dn wd (wd * qq) n D2 D4 xw xd lv [(L + 1 + 1 + 1 + 1 + 1 + 1, o6), (D3, W.listOf lv.toArray c3), (D2, W.listOf fv.toArray c2), (L + 1 + 1 + 1 + 1 + 1, oH), (L + 1 + 1 + 1 + 1, oW)] 0 (h15.push { cls := .type "list_iterator", data := .fields #[.ref lC, .int 0 0] }) gx' :=
    ⟨m3, ps, la, [], { st := (S9.keep kI).rebase, w1 := w1, w2 := w2, w3 := w3, w4 := ⟨_, w4⟩, w6 := ⟨_, w6⟩, w0 := ⟨_, w0⟩, wL := wL, la := isList_listOf (kI _ _ hla), lz := fun h => absurd h (Nat.lt_irrefl _), pcs := hp }⟩
  have hfpN : ∀ b ∈ [h15.objs.size, lC], b ∉ [L, xw, xd, D4, 62] := by
    intro b hb
    simp only [List.mem_cons, List.not_mem_nil, or_false] at hb
    rcases hb with rfl | rfl
    · exact S9.newMu (get_size_none _)
    · exact hfC
  have hst : (h15.push { cls := .type "list_iterator", data := .fields #[.ref lC, .int 0 0] }).IsListIter h15.objs.size lC 0 ∧ (h15.push { cls := .type "list_iterator", data := .fields #[.ref lC, .int 0 0] }).IsList lC pl.toArray := ⟨⟨_, hI0, rfl, rfl⟩, hlC.at fun o e => kI _ o e⟩
  clear S9 hI0 kI hoC hcC w0 w1 w2 w3 w4 w6 wL hla hp hlC
  obtain ⟨J, hJd⟩ : ∃ J : Nat → Shared → Prop, ∀ i s', J i s' ↔ (MainJ g L dn wd (wd * qq) n D2 D4 xw xd lv [(L + 1 + 1 + 1 + 1 + 1 + 1, o6), (D3, W.listOf lv.toArray c3), (D2, W.listOf fv.toArray c2), (L + 1 + 1 + 1 + 1 + 1, oH), (L + 1 + 1 + 1 + 1, oW)] i s'.heap s'.gens ∧ s'.os = s₁.os) := ⟨fun i s' => _, fun _ _ => Iff.rfl⟩
  refine for_walk (Walks.list rfl h15.objs.size lC (Nat.ne_of_lt hC1) pl.toArray) [L, xw, xd, D4, 62] hfpN J hst ((hJd _ _).mpr ⟨hM0, rfl⟩) ?_ ?_ ?_
  · rintro i s h' tk hJ ⟨⟨o, e, c, _⟩, _⟩ hk
    obtain ⟨hJ, hos⟩ := (hJd _ _).mp hJ
    exact (hJd _ _).mpr ⟨hJ.iter e c ⟨by decide, by decide, by decide⟩ hgI hnI hLI hk, hos⟩
  · clear hst hM0 hfpN hgI hLI hnI hC1
    intro i v sx hi hv hJ
    obtain ⟨⟨m, ps, la, lits, hM⟩, hos⟩ := (hJd _ _).mp hJ
    clear hJ
    obtain ⟨hpx, gx', drx, tkx, osx⟩ := sx
    obtain rfl : osx = s₁.os := hos
    have hi : i < wd * qq := by rw [← hcl]; simpa using hi
    obtain ⟨tv, rfl⟩ := hca i v (by simpa using hv)
    have hpN := place_lt (by omega) hN4 hi
    have hS := hM.st
    dsimp only at hS
    refine wpAny_assign_Name (storeL hS.fr hS.news ?_)
    intro h8 k8 F14 N14
    obtain ⟨m2, wP, hm2, F15⟩ := abs_set F14
    have w1 := hm2 _ _ (by decide) hM.w1
    have w2 := hm2 _ _ (by decide) hM.w2
    have w3 := hm2 _ _ (by decide) hM.w3
    obtain ⟨t4, w4⟩ := hM.w4
    obtain ⟨t0, w0⟩ := hM.w0
    obtain ⟨t6, w6⟩ := hM.w6
    have w6 := hm2 _ _ (by decide) w6
    have w4 := hm2 _ _ (by decide) w4
    have w0 := hm2 _ _ (by decide) w0
    have hp := hM.pcs
    clear F14
    have S2 := hS.local F15.ns k8
    clear hm2 hv k8 hM hS F15 N14
    (try dsimp only)
    obtain ⟨C, hCd⟩ : ∃ C : Shared → Prop, ∀ s', C s' ↔ (PressJ g L dn wd (wd * qq) n D4 xw xd lv [(L + 1 + 1 + 1 + 1 + 1 + 1, o6), (D3, W.listOf lv.toArray c3), (D2, W.listOf fv.toArray c2), (L + 1 + 1 + 1 + 1 + 1, oH), (L + 1 + 1 + 1 + 1, oW)] hpx m2 ps i s'.heap s'.gens ∧ s'.os = s₁.os) := ⟨fun s' => _, fun _ => Iff.rfl⟩
    refine cut_stmt C ?_ ?_
    · have F := S2.fr
      have N := S2.news
      have hp0 : 0 ≤ ((placeOf wd (wd * qq) i : Nat) : Int) := by omega
      by_cases hlt : placeOf wd (wd * qq) i < wd - 1
      · have hlt' : ((placeOf wd (wd * qq) i : Nat) : Int) < (wd : Int) - 1 := by omega
        have hfl := hFi.length
        walk
        rw [pressAt_lo (P := presses dn wd (wd * qq) n i) hlt]
        refine go_ (storeL S2.fr S2.news ?_)
        intro h9 k9 F16 N16
        obtain ⟨m3, wQ, hm3, F17⟩ := abs_set F16
        have S3 := S2.local F17.ns k9
        clear F16
        walk
        exact (hCd _).mpr ⟨⟨m3, _, S3, hm3, wQ⟩, rfl⟩
      · have hlt' : ¬ ((placeOf wd (wd * qq) i : Nat) : Int) < (wd : Int) - 1 := by omega
        obtain ⟨rv, hrl, hrg⟩ := S2.ring
        obtain ⟨T, q1, q2, q3, e1, e2, e3, e4⟩ := hrg.2 _ hpN
        rw [colAt_fresh dn n (by omega) hN4 i i (Nat.le_refl _) hi] at e4
        have hG := col_good (dn.getD (2 + placeOf wd (wd * qq) i) 0) hn2 hn3
        obtain ⟨g1, g2, g3, g4, g5⟩ := hG
        walk
        refine go_ (item_list hrl hp0 (by omega) (x := .ref T) (by simpa using e1) ?_)
        walk
        refine go_ (hue_ok g1 (by omega) (by omega) g4 ⟨X', T'⟩ S2.fr.keep e4 e2 (by decide) ?_)
        intro t5 h9 tk9 k9
        have S3 := S2.keep k9
        rename Fr _ _ _ _ => Fo
        clear Fo N
        have F := S3.fr
        have N := S3.news
        rw [g5]
        (try dsimp only)
        walk
        obtain ⟨f1, f2, f3, f4, f5⟩ := win_fits dn hn2 hn3 hw3 hp
        obtain ⟨ep9, hw9⟩ := S3.win
        obtain ⟨hh9, kt9, tz9, k9, hs9⟩ := S3.size
        refine go_ (len_ok S3.fr ⟨X', T'⟩ hw9 S3.ap.gx hs9 S3.ap.gd M1 S3.tab S3.ap.g62 S3.ap.xe S3.ap.xt S3.ap.dt (fun p hp => (S3.pcs p hp).1) S3.bare f4 (by decide) f2 f3 ?_)
        intro s' t6 k6 T6 B6 o6'
        obtain ⟨h10, g10, d10, tk10, os10⟩ := s'
        obtain rfl : os10 = s₁.os := o6'
        have S4 := S3.lens k6 T6 B6
        rename Fr _ _ _ _ => Fo
        clear Fo N S3
        have F := S4.fr
        have N := S4.news
        (try dsimp only)
        walk
        refine go_ (neg_ok (okF X' T' S4.fr) (by decide) ?_)
        intro t7 h11 tk11 k11
        have S5 := S4.keep k11
        rename Fr _ _ _ _ => Fo
        clear Fo N S4
        have F := S5.fr
        have N := S5.news
        (try dsimp only)
        walk
        refine go_ (imod_ok (by omega) (okF X' T' S5.fr) (by decide) ?_)
        intro t8 h12 tk12 k12
        have S6 := S5.keep k12
        rename Fr _ _ _ _ => Fo
        clear Fo N S5
        have eP := pressAt_hi (dn := dn) (wd := wd) (N := wd * qq) (n := n) (i := i) (P := presses dn wd (wd * qq) n i) (a := lookHue (dn.getD (2 + placeOf wd (wd * qq) i) 0) n) hlt rfl f1
        rw [eP]
        (try dsimp only)
        have F := S6.fr
        have N := S6.news
        walk
        refine go_ (storeL S6.fr S6.news ?_)
        intro h13 k13 F16 N16
        obtain ⟨m3, wQ, hm3, F17⟩ := abs_set F16
        have S7 := S6.local F17.ns k13
        clear F16
        walk
        exact (hCd _).mpr ⟨⟨m3, _, S7, hm3, wQ⟩, rfl⟩
    · intro s' hP
      obtain ⟨⟨m, t5, S3, hm, wQ⟩, hos⟩ := (hCd _).mp hP
      clear hP hCd C
      obtain ⟨h9, g9, d9, tk9, os9⟩ := s'
      obtain rfl : os9 = s₁.os := hos
      replace w1 := hm _ _ (by decide) w1
      replace w2 := hm _ _ (by decide) w2
      replace w3 := hm _ _ (by decide) w3
      replace w4 := hm _ _ (by decide) w4
      replace w6 := hm _ _ (by decide) w6
      replace w0 := hm _ _ (by decide) w0
      replace wP := hm _ _ (by decide) wP
      clear hm S2
      clear m2
      have hb := pressAt_bd dn wd (wd * qq) hn2 i (presses dn wd (wd * qq) n i)
      have hb0 := hb.1
      have hb1 : pressAt dn wd (wd * qq) n i (presses dn wd (wd * qq) n i) < 20 := by omega
      dsimp only at S3
      have F := S3.fr
      have N := S3.news
      walk
      obtain ⟨ep10, hw10⟩ := S3.win
      obtain ⟨hh10, kt10, tz10, k10, hs10⟩ := S3.size
      refine go_ (method_bi (K := Mine.hd.heap_39 w.params) (f := .ref 45) (t := .type "function") (X'.keeps S3.fr.keep) (win_at hw10 hs10) (ga := "list.__getattribute__") (by k_is) (by decide +kernel) (by k_is) (by k_is) (by k_is) (by decide) (shadow_of (by decide)) ?_)
      walk
      refine go_ (push_ok (h₀ := g) ⟨X', T'⟩ S3.fr.keep hw10 S3.ap.gx hs10 S3.ap.gd S3.ap.xe (by decide) (by rw [List.length_map, pieces_len hp, List.length_drop, presses_len]; omega) ?_)
      intro a ep' h11 tk11 k11 hn11 hx11 ha11
      obtain ⟨ps2, S4, hq⟩ := S3.pushed2 hp k11 hn11 hx11 ha11
      rw [← presses_drop] at hq
      rename Fr _ _ _ _ => Fo
      clear Fo N S3 hw10 hs10 k11 hn11 hx11 ha11 hp
      have F := S4.fr
      have N := S4.news
      (try dsimp only)
      walk
      obtain ⟨ep11, hw11⟩ := S4.win
      obtain ⟨hh11, kt11, tz11, k11, hs11⟩ := S4.size
      refine go_ (method_bi (K := Mine.hd.heap_39 w.params) (f := .ref 97) (t := .type "function") (X'.keeps S4.fr.keep) (win_at hw11 hs11) (ga := "list.__getattribute__") (by k_is) (by decide +kernel) (by k_is) (by k_is) (by k_is) (by decide) (shadow_of (by decide)) ?_)
      walk
      refine go_ (part_count_ok (h₀ := g) ⟨X', T'⟩ S4.fr.keep hw11 S4.ap.gx hs11 S4.ap.gd (by decide) ?_)
      intro t12 h12 tk12 k12
      have S5 := S4.keep k12
      have eL : ((piecesIts ps2).length : Int) = (wd : Int) := by rw [pieces_its_len hq, List.length_drop, presses_len]; omega
      rw [eL]
      rename Fr _ _ _ _ => Fo
      clear Fo N S4 hw11 hs11 k12 eL
      have F := S5.fr
      have N := S5.news
      (try dsimp only)
      walk
      all_goals (try exact absurd rfl (by assumption : (wd : Int) ≠ (wd : Int)))
      obtain ⟨rv, hrl, hrg⟩ := S5.ring
      obtain ⟨T, q1, q2, q3, e1, e2, e3, e4⟩ := hrg.2 _ hpN
      rw [colAt_fresh dn n (by omega) hN4 i i (Nat.le_refl _) hi] at e4
      have hG := col_good (dn.getD (2 + placeOf wd (wd * qq) i) 0) hn2 hn3
      have hsb := steps_bd dn (wd * qq) hn2 (by omega) hw3 i
      obtain ⟨g1, g2, g3, g4, g5⟩ := hG
      have hT := turn_good (dn.getD (2 + placeOf wd (wd * qq) i) 0) hn2 hn3 hsb.1 hsb.2
      have hp0 : 0 ≤ ((placeOf wd (wd * qq) i : Nat) : Int) := by omega
      refine go_ (item_list hrl hp0 (by omega) (x := .ref T) (by simpa using e1) ?_)
      walk
      obtain ⟨ep12, hw12⟩ := S5.win
      obtain ⟨hh12, kt12, tz12, k12, hs12⟩ := S5.size
      have f1 := pieces_sum hq fun k hk => (presses_bd dn wd (wd * qq) hn2 (i + 1) k (List.mem_of_mem_drop hk)).1
      have eS : szAt dn wd n i + (ps2.map pieceLen).sum = stepsAt dn wd (wd * qq) n i := by rw [f1]; rfl
      have f4 := pieces_short hq fun k hk => Int.lt_of_lt_of_le (presses_bd dn wd (wd * qq) hn2 (i + 1) k (List.mem_of_mem_drop hk)).2 (by omega)
      refine go_ (len_ok S5.fr ⟨X', T'⟩ hw12 S5.ap.gx hs12 S5.ap.gd M1 S5.tab S5.ap.g62 S5.ap.xe S5.ap.xt S5.ap.dt (fun p hp => (S5.pcs p hp).1) S5.bare f4 (by decide) (by rw [eS]; exact hsb.1) (by rw [eS]; omega) ?_)
      intro s' t13 k13 T13 B13 o13'
      obtain ⟨h13, g13, d13, tk13, os13⟩ := s'
      obtain rfl : os13 = s₁.os := o13'
      have e4 := (show Near L D4 xw xd h12 h13 from .of62 k13) _ _ e3 (S5.tup e4 rfl).1 (S5.tup e4 rfl).2.1 (S5.tup e4 rfl).2.2.1 (S5.tup e4 rfl).2.2.2 e4
      have S6 := S5.lens k13 T13 B13
      have hrl6 : h13.IsList D4 rv.toArray := hrl.at fun o e => k13 _ o S5.ap.rt e
      have hrg6 := S5.ringN (.of62 k13) hrg
      rw [eS]
      rename Fr _ _ _ _ => Fo
      clear Fo N S5 hw12 hs12 k13 T13 B13 hrl hrg eS f1 f4 k12 g2 g3 g4 g5
      have F := S6.fr
      have N := S6.news
      (try dsimp only)
      walk
      refine go_ (turned_ok g1 (by omega) hsb.1 (by omega) hT.1 ⟨X', T'⟩ S6.fr.keep e4 e2 (by decide) ?_)
      intro a2 r1 r2 r3 h14 tk14 k14 hn14 hg14
      have S7 := S6.keep k14
      have hrl7 : h14.IsList D4 rv.toArray := hrl6.at fun o e => k14 _ o e
      have hrg7 := S6.ringN (.of k14) hrg6
      have hf14 := S6.fresh hn14
      rename Fr _ _ _ _ => Fo
      clear Fo N S6 hrl6 hrg6 e4 k14 hn14
      have F := S7.fr
      have N := S7.news
      (try dsimp only)
      walk
      refine go_ (wpAny_setItem_list hrl7 hp0 (by omega) (by rw [List.size_toArray, hrg7.1]; omega) ?_)
      intro h15' hl15 hs15
      have kr : ∀ b o, b ≠ D4 → h14.get? b = some o → h15'.get? b = some o := fun b o hb e => hs15.extBut b o hb e
      have hl15 : h15'.IsList D4 (rv.set (placeOf wd (wd * qq) i) (.ref a2)).toArray := by simpa using hl15
      have ha2 := S7.tupN (.of4 kr) hg14 rfl hf14.2
      have S8 := (S7.setRing kr hl15 (ring_set (p := placeOf wd (wd * qq) i) (c := turned (colour (dn.getD (2 + placeOf wd (wd * qq) i) 0) n) (stepsAt dn wd (wd * qq) n i) n) (S7.ringN (.of4 kr) hrg7) ha2 hf14.1 hf14.2)).colEq (colAt_succ dn n (by omega) hN4 hi)
      rename Fr _ _ _ _ => Fo
      clear Fo N S7 hrl7 hrg7 hg14 kr hl15 hs15 ha2 hf14
      have F := S8.fr
      have N := S8.news
      (try dsimp only)
      walk
      obtain ⟨ep14, hw14⟩ := S8.win
      obtain ⟨hh14, kt14, tz14, k14, hs14⟩ := S8.size
      refine go_ (method_bi (K := Mine.hd.heap_39 w.params) (f := .ref 53) (t := .type "function") (X'.keeps S8.fr.keep) (win_at hw14 hs14) (ga := "list.__getattribute__") (by k_is) (by decide +kernel) (by k_is) (by k_is) (by k_is) (by decide) (shadow_of (by decide)) ?_)
      walk
      refine go_ (pop_ok (h₀ := g) ⟨X', T'⟩ S8.fr.keep hw14 S8.ap.gx hs14 S8.ap.gd (by decide) (by rw [pieces_its_len hq, List.length_drop, presses_len]; omega) ?_)
      intro l2 ep' h16 tk16 k16 hn16 hx16 hl16
      have hf16 := S8.fresh hn16
      obtain ⟨S9, hpk⟩ := S8.popped k16 hx16
      rename Fr _ _ _ _ => Fo
      clear Fo N S8 hw14 hs14 k16 hn16 hx16
      have F := S9.fr
      have N := S9.news
      (try dsimp only)
      walk
      refine go_ (storeL S9.fr S9.news ?_)
      intro h17 k17 F17 N17
      obtain ⟨m4, wL4, hm4, F18⟩ := abs_set F17
      replace w1 := hm4 _ _ (by decide) w1
      replace w2 := hm4 _ _ (by decide) w2
      replace w3 := hm4 _ _ (by decide) w3
      replace w4 := hm4 _ _ (by decide) w4
      replace w6 := hm4 _ _ (by decide) w6
      replace w0 := hm4 _ _ (by decide) w0
      have S10 := S9.local F18.ns k17
      have hpk10 : ∀ p ∈ ps2, h17.get? p.1 = some (pieceObj p) ∧ g.get? p.1 = none ∧ p.1 ≠ L := fun p hp => ⟨S9.tupN (.ofL k17) (hpk p hp).1 rfl (hpk p hp).2.2, (hpk p hp).2⟩
      have hl17 := k17 _ _ hf16.2 hl16
      rename_i Fo _
      clear F17 N17 F18 hm4 k17 S9 hpk hl16 F N
      clear Fo
      have F := S10.fr
      have N := S10.news
      (try dsimp only)
      walk
      refine go_ (ldName S10.fr.ns w0 ?_)
      walk
      obtain ⟨u1, u2, u3, u4⟩ := one_bd dn (wd := wd) (N := wd * qq) hn2 hn3 i hq
      obtain ⟨ep17, hw17⟩ := S10.win
      obtain ⟨hh17, kt17, tz17, k17, hs17⟩ := S10.size
      refine go_ (len_ok S10.fr ⟨X', T'⟩ hw17 S10.ap.gx hs17 S10.ap.gd M1 S10.tab S10.ap.g62 S10.ap.xe S10.ap.xt S10.ap.dt (fun p hp => (S10.pcs p hp).1) S10.bare u4 (by decide) u2 u3 ?_)
      intro s' t18 k18 T18 B18 o18'
      obtain ⟨h18, g18, d18, tk18, os18⟩ := s'
      obtain rfl : os18 = s₁.os := o18'
      have S11 := S10.lens k18 T18 B18
      have hpk11 : ∀ p ∈ ps2, h18.get? p.1 = some (pieceObj p) ∧ g.get? p.1 = none ∧ p.1 ≠ L := fun p hp => ⟨S10.tupN (.of62 k18) (hpk10 p hp).1 rfl (hpk10 p hp).2.2, (hpk10 p hp).2⟩
      have hl18 := k18 _ _ (S10.lst hl17 rfl).2.2 hl17
      rw [u1]
      rename Fr _ _ _ _ => Fo
      clear Fo N S10 hw17 hs17 k18 T18 B18 hpk10 hl17 u1 u2 u3 u4
      have F := S11.fr
      have N := S11.news
      (try dsimp only)
      walk
      refine go_ (storeL S11.fr S11.news ?_)
      intro h19 k19 F17 N17
      obtain ⟨m5, wT5, hm5, F18⟩ := abs_set F17
      replace w1 := hm5 _ _ (by decide) w1
      replace w2 := hm5 _ _ (by decide) w2
      replace w3 := hm5 _ _ (by decide) w3
      replace w4 := hm5 _ _ (by decide) w4
      replace w6 := hm5 _ _ (by decide) w6
      replace wL4 := hm5 _ _ (by decide) wL4
      have S12 := S11.local F18.ns k19
      have hpk12 : ∀ p ∈ ps2, h19.get? p.1 = some (pieceObj p) ∧ g.get? p.1 = none ∧ p.1 ≠ L := fun p hp => ⟨S11.tupN (.ofL k19) (hpk11 p hp).1 rfl (hpk11 p hp).2.2, (hpk11 p hp).2⟩
      have hl19 := k19 _ _ hf16.2 hl18
      rename Fr _ _ _ _ => Fo
      clear Fo N17 hm5 k19 S11 hpk11 hl18 w0 N
      rename Fr _ _ _ _ => Fo
      clear Fo
      rename Fr _ _ _ _ => Fo
      clear Fo
      have F := S12.fr
      have N := S12.news
      (try dsimp only)
      walk
      obtain ⟨ep19, hw19⟩ := S12.win
      obtain ⟨hh19, kt19, tz19, k19, hs19⟩ := S12.size
      refine go_ (method_bi (K := Mine.hd.heap_39 w.params) (f := .ref 82) (t := .type "function") (X'.keeps S12.fr.keep) (win_at hw19 hs19) (ga := "list.__getattribute__") (by k_is) (by decide +kernel) (by k_is) (by k_is) (by k_is) (by decide) (shadow_of (by decide)) ?_)
      walk
      have nl := S12.lst hl19 rfl
      have lz := pieces_its_len hq
      rw [List.length_drop, presses_len] at lz
      refine go_ (reset_ok (h₀ := g) ⟨X', T'⟩ S12.fr.keep hw19 S12.ap.gx hs19 S12.ap.gd hl19 hf16.1 (Ne.symm nl.1) S12.ap.xe (Ne.symm nl.2.1) (by decide) (by rw [show piecesIts (ps2.take 1) = (piecesIts ps2).take 1 by simp [List.map_take], List.length_take]; omega) (by rw [List.length_drop]; omega) ?_)
      intro ep20 tz20 n20 h20 tk20 k20 hx20 hd20
      have eD : (piecesIts ps2).drop 1 = piecesIts (ps2.drop 1) := by simp [List.map_drop]
      rw [eD] at hx20
      have S13 := S12.winsz (ps' := ps2.drop 1) (sz' := szAt dn wd n (i + 1)) k20 ⟨_, hx20⟩ ⟨_, _, _, _, by rw [szAt_succ]; exact hd20⟩ fun p hp => ⟨S12.tupN (.ofXD k20) (hpk12 p (List.mem_of_mem_drop hp)).1 rfl (hpk12 p (List.mem_of_mem_drop hp)).2.2, (hpk12 p (List.mem_of_mem_drop hp)).2⟩
      have hl20 := k20 _ _ nl.1 nl.2.1 hl19
      rw [eD] at hl20
      have hq2 := pieces_drop hq 1
      rw [List.drop_drop] at hq2
      have hJ : MainJ g L dn wd (wd * qq) n D2 D4 xw xd lv [(L + 1 + 1 + 1 + 1 + 1 + 1, o6), (D3, W.listOf lv.toArray c3), (D2, W.listOf fv.toArray c2), (L + 1 + 1 + 1 + 1 + 1, oH), (L + 1 + 1 + 1 + 1, oW)] (i + 1) h20 g18 :=
        ⟨m5, ps2.drop 1, l2, piecesIts (ps2.drop 1), { st := S13.rebase, w1 := w1, w2 := w2, w3 := w3, w4 := ⟨_, w4⟩, w6 := ⟨_, w6⟩, w0 := ⟨_, wT5⟩, wL := wL4, la := isList_listOf hl20, lz := fun _ => rfl, pcs := hq2 }⟩
      have hJ : ∀ d t, J (i + 1) { heap := h20, gens := g18, drawn := d, toks := t, os := s₁.os } := fun _ _ => (hJd _ _).mpr ⟨hJ, rfl⟩
      have hmu := S13.mu
      (try dsimp only)
      walk
      all_goals first | exact hJ _ _ | exact hmu _ _ (by assumption) (by assumption)
  intro s' hJ
  obtain ⟨⟨m, ps, la, lits, hM⟩, hos⟩ := (hJd _ _).mp hJ
  clear hJ hJd J
  obtain ⟨hpx, gx', drx, tkx, osx⟩ := s'
  obtain rfl : osx = s₁.os := hos
  (try dsimp only at hM)
  rw [show pl.toArray.size = wd * qq by rw [List.size_toArray, hcl]] at hM
  have S := hM.st
  have w1 := hM.w1
  have w2 := hM.w2
  have w3 := hM.w3
  obtain ⟨t4, w4⟩ := hM.w4
  obtain ⟨t0, w0⟩ := hM.w0
  obtain ⟨t6, w6⟩ := hM.w6
  have wL := hM.wL
  have hla := hM.la
  have hlz := hM.lz (by omega)
  have hp := hM.pcs
  clear hM hst hfpN hM0 hnI hLI hgI hC1 hca hcl hfC
  subst hlz
  (try dsimp only)
  repeat (rename_i x; first | clear x | revert x)
  clear m3 h15 lC pl tk14
  revert w s₁ mg mb fa cd bm ob B1 g L hNL hNS M1 hL62 X' T' dn hdl wd qq n hw2 hw3 hq2 hq3 hn2 hn3 tW tH tS D2 c2 fv hFi oW dW oH dH tA D3 c3 o6 d6 lv D4 xw xd hh kt nw ep ph tz ta hN4 hN12 oC m ps la hpx gx' drx tkx S w1 w2 w3 t4 w4 t0 w0 t6 w6 wL hp hla
  exact zHold.out
noncomputable def pk_s10 : (P : Prop) ×' (Hold P → pk_s9.1) := by
  refine' ⟨_, fun zHold => ?f⟩
  case f =>
  intro w s₁ mg mb fa cd bm ob B1 g L hNL hNS M1 hL62 X' T' dn hdl wd qq n hw2 hw3 hq2 hq3 hn2 hn3 tW tH tS D2 c2 fv hFi oW dW oH dH tA D3 c3 o6 d6 lv D4 xw xd hh kt nw ep ph tz ta hN4 hN12 oC m ps la hpx gx' drx tkx S w1 w2 w3 t4 w4 t0 w0 t6 w6 wL hp hla
  w_top on
  have hbk : NoneBooked g := booked X'
  have F := S.fr
  have N := S.news
  walk
  obtain ⟨ep10, hw10⟩ := S.win
  obtain ⟨hh10, kt10, tz10, k10, hs10⟩ := S.size
  refine go_ (method_bi (K := Mine.hd.heap_39 w.params) (f := .ref 82) (t := .type "function") (X'.keeps S.fr.keep) (win_at hw10 hs10) (ga := "list.__getattribute__") (by k_is) (by decide +kernel) (by k_is) (by k_is) (by k_is) (by decide) (shadow_of (by decide)) ?_)
  walk
  have nl : la ≠ xw ∧ la ≠ xd ∧ la ≠ 62 := by obtain ⟨oa, e1, e2, _⟩ := hla; exact S.lst e1 e2
  refine go_ (reset0_ok (h₀ := g) ⟨X', T'⟩ S.fr.keep hw10 S.ap.gx hs10 S.ap.gd S.ap.xe (by decide) (by rw [pieces_its_len hp, List.length_drop, presses_len]; omega) ?_)
  intro ep20 tz20 n20 h20 tk20 k20 hx20 hd20
  have hla : h20.IsList la (piecesIts ps).toArray := hla.at fun o e => k20 _ o nl.1 nl.2.1 e
  have hpk : ∀ p ∈ ps, h20.get? p.1 = some (pieceObj p) ∧ g.get? p.1 = none ∧ p.1 ≠ L := S.pcsN (.ofXD k20)
  have S1 : EndSt g L dn wd (wd * qq) n D4 xw xd lv [(L + 1 + 1 + 1 + 1 + 1 + 1, o6), (D3, W.listOf lv.toArray c3), (D2, W.listOf fv.toArray c2), (L + 1 + 1 + 1 + 1 + 1, oH), (L + 1 + 1 + 1 + 1, oW)] hpx ps la m h20 gx' := ⟨S.winsz (ps' := []) (sz' := 0) k20 ⟨_, hx20⟩ ⟨_, _, _, _, hd20⟩ (by intro p hp; cases hp), hla, hpk⟩
  rename Fr _ _ _ _ => Fo
  clear Fo N S k20 hx20 hd20 hw10 hs10 nl hla hpk
  have F := S1.st.fr
  have N := S1.st.news
  (try dsimp only)
  walk
  obtain ⟨ep10, hw10⟩ := S1.st.win
  obtain ⟨hh10, kt10, tz10, k10, hs10⟩ := S1.st.size
  refine go_ (method_bi (K := Mine.hd.heap_39 w.params) (f := .ref 97) (t := .type "function") (X'.keeps S1.st.fr.keep) (win_at hw10 hs10) (ga := "list.__getattribute__") (by k_is) (by decide +kernel) (by k_is) (by k_is) (by k_is) (by decide) (shadow_of (by decide)) ?_)
  walk
  refine go_ (part_count_ok (h₀ := g) ⟨X', T'⟩ S1.st.fr.keep hw10 S1.st.ap.gx hs10 S1.st.ap.gd (by decide) ?_)
  intro t12 h12 tk12 k12
  have S2 := S1.keep k12
  rename Fr _ _ _ _ => Fo
  clear Fo N S1 k12 hw10 hs10
  have F := S2.st.fr
  have N := S2.st.news
  (try dsimp only)
  walk
  obtain ⟨ep10, hw10⟩ := S2.st.win
  obtain ⟨hh10, kt10, tz10, k10, hs10⟩ := S2.st.size
  refine go_ (len_ok S2.st.fr ⟨X', T'⟩ hw10 S2.st.ap.gx hs10 S2.st.ap.gd M1 S2.st.tab S2.st.ap.g62 S2.st.ap.xe S2.st.ap.xt S2.st.ap.dt (fun p hp => (S2.st.pcs p hp).1) S2.st.bare (fun i => ⟨by simp; decide, by simp; decide⟩) (by decide) (by decide) (by decide) ?_)
  intro s' t13 k13 T13 B13 o13'
  obtain ⟨h13, g13, d13, tk13, os13⟩ := s'
  obtain rfl : os13 = s₁.os := o13'
  have S3 := S2.lens k13 T13 B13
  rename Fr _ _ _ _ => Fo
  clear Fo N S2 hw10 hs10 k13 T13 B13
  have F := S3.st.fr
  have N := S3.st.news
  rw [show (0 : Int) + (List.map pieceLen ([] : List Piece)).sum = 0 from rfl, show (((piecesIts []).length : Nat) : Int) = 0 from rfl]
  (try dsimp only)
  walk
  refine go_ (newTuple_p (Nat.le_of_ble_eq_true rfl) ?_)
  intro a1 h14 hn14 k14 ha14
  have S4 := S3.keep k14
  rename Fr _ _ _ _ => Fo
  clear Fo N S3 hn14 k14
  have F := S4.st.fr
  have N := S4.st.news
  (try dsimp only)
  walk
  refine go_ (newTuple_p (Nat.le_of_ble_eq_true rfl) ?_)
  intro a2 h15 hn15 k15 ha15
  have S5 := S4.keep k15
  replace ha14 := k15 _ _ ha14
  rename Fr _ _ _ _ => Fo
  clear Fo N S4 hn15 k15
  have F := S5.st.fr
  have N := S5.st.news
  (try dsimp only)
  walk
  refine go_ (ne_tup2 ha14 ha15 (Nat.le_of_ble_eq_true rfl) ?_)
  walk
  refine go_ ?_
  clear ha14 ha15
  rename Fr _ _ _ _ => Fo
  clear Fo N
  have S5 := S5.rebase
  (try dsimp only)
  repeat (rename_i x; first | clear x | revert x)
  revert w s₁ mg mb fa cd bm ob B1 g L hNL hNS M1 hL62 X' T' dn hdl wd qq n hw2 hw3 hq2 hq3 hn2 hn3 tW tH tS D2 c2 fv hFi oW dW oH dH tA D3 c3 o6 d6 lv D4 xw xd hh kt nw ep ph tz ta hN4 hN12 oC m ps la hpx gx' drx tkx w1 w2 w3 t4 w4 t0 w0 t6 w6 wL hp hla hbk ep20 tz20 n20 h20 tk20 t12 h12 tk12 ep10 hh10 kt10 tz10 k10 t13 h13 g13 d13 tk13 a1 h14 a2 h15 tk S5
  exact zHold.out
noncomputable def pk_s11 : (P : Prop) ×' (Hold P → pk_s10.1) := by
  refine' ⟨_, fun zHold => ?f⟩
  case f =>
  intro w s₁ mg mb fa cd bm ob B1 g L hNL hNS M1 hL62 X' T' dn hdl wd qq n hw2 hw3 hq2 hq3 hn2 hn3 tW tH tS D2 c2 fv hFi oW dW oH dH tA D3 c3 o6 d6 lv D4 xw xd hh kt nw ep ph tz ta hN4 hN12 oC m ps la hpx gx' drx tkx w1 w2 w3 t4 w4 t0 w0 t6 w6 wL hp hla hbk ep20 tz20 n20 h20 tk20 t12 h12 tk12 ep10 hh10 kt10 tz10 k10 t13 h13 g13 d13 tk13 a1 h14 a2 h15 tk S5
  w_top on
  have F := S5.st.fr
  have N := S5.st.news
  refine asg_comp rfl fun p₂ => ?_
  refine range_comp0 wd (fun k y ob => ob = none ∧ ∃ t, y = .int (rowSum dn wd n k qq) t) (by omega) rfl rfl (by decide) rfl (by decide) rfl ?_
  walk
  refine go_ (range1K ?_)
  intro rB h16 tk16 tr1 tr2 tr3 k16 hrB
  have S6 := (S5.keep k16).rebase
  rename Fr _ _ _ _ => Fo
  clear Fo N S5 k16
  refine ⟨_, _, _, _, rfl, hrB, ?_, ?_⟩
  · intro C i s₃ m₃ tki hi hn hm hk hg ho hC
    obtain ⟨h17, g17, d17, t17, o17⟩ := s₃
    obtain rfl : g17 = g13 := hg
    obtain rfl : o17 = s₁.os := ho
    have F := S6.st.fr
    have N := S6.st.news
    have S7 := S6.keep hk
    dsimp only at S7
    walk
    refine go_ (eval_comp fun p₃ => ?_)
    refine list_comp0 (fun r m => ∃ v, ((List.range qq).map fun r => lv.getD (r * wd + i) .none)[r]? = some v ∧ m "look" = some v) (fun r y ob => ob = none ∧ ∃ t, y = .int (hueA dn n (r * wd + i)) t) rfl rfl (by decide) rfl (by decide) ?_
    walk
    have hl17 : h17.IsList D3 lv.toArray := isList_listOf (S7.st.news _ (.tail _ (.head _))).1
    have hlk := S7.st.looks
    refine go_ (slice_list (hl17.push _) (Heap.IsSliceOf.new ..) (.int _ _) .none (.int _ _) (fun e => by have := Option.some.inj e; omega) (by rw [List.size_toArray, hlk.1]; omega) ?_)
    rw [pick_row hlk.1 hw2 hw3 hq2 hq3 hi]
    have kp : ∀ (o1 o2 : Obj) b o, h17.get? b = some o → ((h17.push o1).push o2).get? b = some o := fun o1 o2 b o e => Heap.get?_push_of_some _ (Heap.get?_push_of_some _ e)
    refine go_ ⟨_, _, rfl, ⟨_, Heap.get?_push_size _ rfl, rfl, _, rfl⟩, ?_, ?_, ?_, ?_⟩
    · simp; omega
    · refine go_ ?_
      intro C2 r v s₄ m₄ I j hv hn4 hit hk4
      exact has_name (P := fun r v => ((List.range qq).map fun r => lv.getD (r * wd + i) .none)[r]? = some v) rfl (lookup_relabel_local rfl) rfl (by simpa using hv) hn4
    · refine go_ ?_
      intro C2 r s₄ m₄ hr hn4 hb hk4 hg4 ho4 hC4
      obtain ⟨v, hv, hm4⟩ := hb
      obtain ⟨hrq, T, t, u, v', rfl, hT⟩ := look_row hlk hi hv
      replace hT := hk4 _ _ (kp _ _ _ _ hT)
      walk
      refine go_ (item_tup (l := [_, _, _]) (j := 0) hT (by decide) (by decide) rfl rfl ?_)
      exact ⟨⟨none, ⟨rfl, _, rfl⟩, fun p e => by cases e⟩, _, _, rfl, fun _ _ e => e⟩
    refine go_ (fin_eval ?_)
    intro D6 h19 tk19 ys hDn hPl hsz hG kD
    obtain ⟨c6, hD6⟩ := hPl
    have hIy : IntsAre ys.toList ((List.range qq).map fun r => hueA dn n (r * wd + i)) := ints_of_got (by simpa using hsz) (fun r y e => by
      obtain ⟨ob, ⟨_, h⟩, _⟩ := hG r y (by simpa using e); exact h)
    walk
    refine go_ (sum_ints' (vs := ys.toList) rfl ⟨_, hD6, rfl, c6, by simp⟩ hIy ?_)
    intro h20 tk20 t20 k20
    rw [row_sum]
    exact ⟨⟨none, ⟨rfl, _, rfl⟩, fun p e => by cases e⟩, _, _, rfl, fun b o e => k20 _ _ (kD _ _ (kp _ _ _ _ e))⟩
  refine go_ (fin_asg rfl rfl S6.st.fr.ns ?_)
  intro D5 h20 tk20 ys hDn hPl hsz hG hns kD
  obtain ⟨c5, hD5⟩ := hPl
  have hSi : IntsAre ys.toList ((List.range wd).map fun k => rowSum dn wd n k qq) := ints_of_got (by simpa using hsz) (fun r y e => by
    obtain ⟨ob, ⟨_, h⟩, _⟩ := hG r y (by simpa using e); exact h)
  have h5 := S6.st.fresh hDn
  obtain ⟨m9, w5, hm9, S7⟩ := (S6.local hns kD).abs
  replace w0 := hm9 _ _ (by decide) w0
  replace w1 := hm9 _ _ (by decide) w1
  replace w2 := hm9 _ _ (by decide) w2
  replace w3 := hm9 _ _ (by decide) w3
  replace w4 := hm9 _ _ (by decide) w4
  replace w6 := hm9 _ _ (by decide) w6
  replace wL := hm9 _ _ (by decide) wL
  have S8 := S7.rebase
  clear S7 S6 hm9 hns kD hG hDn hsz hrB
  revert hSi hD5
  rw [show (Data.seq ys c5) = Data.seq ys.toList.toArray c5 by simp]
  generalize ys.toList = sv
  intro hD5 hSi
  (try dsimp only)
  repeat (rename_i x; first | clear x | revert x)
  clear h16 tk16 tr1 tr2 tr3 rB p₂ ys h15 m
  revert w s₁ mg mb fa cd bm ob B1 g L hNL hNS M1 hL62 X' T' dn hdl wd qq n hw2 hw3 hq2 hq3 hn2 hn3 tW tH tS D2 c2 fv hFi oW dW oH dH tA D3 c3 o6 d6 lv D4 xw xd hh kt nw ep ph tz ta hN4 hN12 oC ps la hpx gx' drx tkx t4 t0 t6 hp hla hbk ep20 tz20 n20 t12 h12 tk12 ep10 hh10 kt10 tz10 k10 t13 h13 g13 d13 tk13 a1 h14 a2 tk D5 h20 tk20 c5 h5 m9 w5 w0 w1 w2 w3 w4 w6 wL S8 sv hD5 hSi
  exact zHold.out
noncomputable def pk_s12 : (P : Prop) ×' (Hold P → pk_s11.1) := by
  refine' ⟨_, fun zHold => ?f⟩
  case f =>
  intro w s₁ mg mb fa cd bm ob B1 g L hNL hNS M1 hL62 X' T' dn hdl wd qq n hw2 hw3 hq2 hq3 hn2 hn3 tW tH tS D2 c2 fv hFi oW dW oH dH tA D3 c3 o6 d6 lv D4 xw xd hh kt nw ep ph tz ta hN4 hN12 oC ps la hpx gx' drx tkx t4 t0 t6 hp hla hbk ep20 tz20 n20 t12 h12 tk12 ep10 hh10 kt10 tz10 k10 t13 h13 g13 d13 tk13 a1 h14 a2 tk D5 h20 tk20 c5 h5 m9 w5 w0 w1 w2 w3 w4 w6 wL S8 sv hD5 hSi
  w_top on
  have F := S8.st.fr
  have N := S8.st.news
  have hN12 : wd * qq ≤ 12 := Nat.le_trans (Nat.mul_le_mul hw3 hq3) (by decide)
  walk
  refine go_ (wpAny_For ?_)
  walk
  refine go_ (range1K ?_)
  intro rB h21 tk21 tr1 tr2 tr3 k21 hrB
  have S9 := S8.keep k21
  have hl5 : h21.IsList D5 sv.toArray := (isList_listOf hD5).at fun o e => k21 _ o e
  rename Fr _ _ _ _ => Fo
  clear Fo N S8 k21 hD5
  (try dsimp only)
  have eR : Builtin.Range.rangeSize 0 ((wd * qq : Nat) : Int) 1 = ((wd * qq : Nat) : Int) := by rw [rangeSize_one]; split <;> omega
  refine wpAny_pyIter_range hrB (range_small (wd * qq) (by omega)) ?_
  rw [eR]
  have hgI : g.get? h21.objs.size = none := by
    cases q : g.get? h21.objs.size with
    | none => rfl
    | some o => exact absurd (Heap.lt_size (S9.st.fr.keep _ _ q)) (Nat.lt_irrefl _)
  have hLI : L ≠ h21.objs.size := by obtain ⟨oL, _, _, hL, _⟩ := S9.st.fr.ns; exact Nat.ne_of_lt (Heap.lt_size hL)
  have hnI : ∀ p ∈ ([(L + 1 + 1 + 1 + 1 + 1 + 1, o6), (D3, W.listOf lv.toArray c3), (D2, W.listOf fv.toArray c2), (L + 1 + 1 + 1 + 1 + 1, oH), (L + 1 + 1 + 1 + 1, oW)] : List (Addr × Obj)), p.1 ≠ h21.objs.size := fun p hp => Nat.ne_of_lt (Heap.lt_size (S9.st.news p hp).1)
  have kI : ∀ b o, h21.get? b = some o → (h21.push { cls := .type "range_iterator", data := .fields #[rawInt 0, rawInt ((wd * qq : Nat) : Int), rawInt 1] }).get? b = some o := fun b o e => Heap.get?_push_of_some _ e
  have hI0 : (h21.push { cls := .type "range_iterator", data := .fields #[rawInt 0, rawInt ((wd * qq : Nat) : Int), rawInt 1] }).get? h21.objs.size = some { cls := .type "range_iterator", data := .fields #[rawInt 0, rawInt ((wd * qq : Nat) : Int), rawInt 1] } := Heap.get?_push_size _ rfl
  have hJ0 : LastJ g L dn wd qq n D2 D4 D5 xw xd lv [(L + 1 + 1 + 1 + 1 + 1 + 1, o6), (D3, W.listOf lv.toArray c3), (D2, W.listOf fv.toArray c2), (L + 1 + 1 + 1 + 1 + 1, oH), (L + 1 + 1 + 1 + 1, oW)] ps la sv (h21.push { cls := .type "range_iterator", data := .fields #[rawInt 0, rawInt ((wd * qq : Nat) : Int), rawInt 1] }) g13 :=
    ⟨m9, { st := (S9.keep kI).rebase, l5 := hl5.at fun o e => kI _ o e, w0 := ⟨_, w0⟩, w2 := w2, w3 := w3, w5 := w5, w6 := ⟨_, w6⟩, wL := wL }⟩
  have hfpN : ∀ b ∈ [h21.objs.size], b ∉ [L, xw, xd, D4, 62] := by
    intro b hb
    rw [List.mem_singleton.mp hb]
    exact S9.st.newMu (get_size_none _)
  clear S9 hl5 w0 w1 w2 w3 w4 w5 w6 wL kI hrB eR
  obtain ⟨J, hJd⟩ : ∃ J : Nat → Shared → Prop, ∀ i s', J i s' ↔ (LastJ g L dn wd qq n D2 D4 D5 xw xd lv [(L + 1 + 1 + 1 + 1 + 1 + 1, o6), (D3, W.listOf lv.toArray c3), (D2, W.listOf fv.toArray c2), (L + 1 + 1 + 1 + 1 + 1, oH), (L + 1 + 1 + 1 + 1, oW)] ps la sv s'.heap s'.gens ∧ s'.os = s₁.os) := ⟨fun i s' => _, fun _ _ => Iff.rfl⟩
  refine for_walk (Walks.range rfl h21.objs.size 0 1 (wd * qq)) [L, xw, xd, D4, 62] hfpN J ?_ ((hJd _ _).mpr ⟨hJ0, rfl⟩) ?_ ?_ ?_
  · show Heap.get? _ _ = _
    rw [hI0]; simp
  · rintro i s h' tk hJ hst hk
    obtain ⟨hJ, hos⟩ := (hJd _ _).mp hJ
    exact (hJd _ _).mpr ⟨hJ.iter (show Heap.get? _ _ = _ from hst) rfl ⟨by decide, by decide, by decide⟩ hgI hnI hLI hk, hos⟩
  · clear hI0 hJ0 hfpN hgI hLI hnI
    intro i v sx hi hv hJ
    obtain ⟨⟨m, hM⟩, hos⟩ := (hJd _ _).mp hJ
    clear hJ
    obtain ⟨hpx, gx', drx, tkx, osx⟩ := sx
    obtain rfl : osx = s₁.os := hos
    obtain ⟨tv, rfl⟩ := hv
    rw [show (0 : Int) + (i : Int) * 1 = (i : Int) by omega]
    have hS := hM.st
    dsimp only at hS
    refine wpAny_assign_Name (storeL hS.st.fr hS.st.news ?_)
    intro h8 k8 F14 N14
    obtain ⟨m2, wP, hm2, F15⟩ := abs_set F14
    obtain ⟨t0, w0⟩ := hM.w0
    obtain ⟨t6, w6⟩ := hM.w6
    have w0 := hm2 _ _ (by decide) w0
    have w6 := hm2 _ _ (by decide) w6
    have w2 := hm2 _ _ (by decide) hM.w2
    have w3 := hm2 _ _ (by decide) hM.w3
    have w5 := hm2 _ _ (by decide) hM.w5
    have wL := hm2 _ _ (by decide) hM.wL
    have S2 := hS.local F15.ns k8
    have hl5 : h8.IsList D5 sv.toArray := hM.l5.at fun o e => k8 _ o (isList_ne_ns hM.l5 hS.st.fr.ns) e
    have hp0 : 0 ≤ (i : Int) := by omega
    clear hm2 k8 hM hS F15 N14 F14
    dsimp only
    obtain ⟨C, hCd⟩ : ∃ C : Shared → Prop, ∀ s', C s' ↔ (LeftJ g L dn wd qq n D2 D4 D5 xw xd lv [(L + 1 + 1 + 1 + 1 + 1 + 1, o6), (D3, W.listOf lv.toArray c3), (D2, W.listOf fv.toArray c2), (L + 1 + 1 + 1 + 1 + 1, oH), (L + 1 + 1 + 1 + 1, oW)] ps la sv hpx m2 i s'.heap s'.gens ∧ s'.os = s₁.os) := ⟨fun s' => _, fun _ => Iff.rfl⟩
    refine cut_stmt C ?_ ?_
    · have F := S2.st.fr
      have N := S2.st.news
      by_cases hlt : i < wd - 1
      · have hlt' : (i : Int) < (wd : Int) - 1 := by omega
        obtain ⟨ti, eti⟩ := hSi.get i (rowSum dn wd n i qq) (map_at _ (by omega))
        obtain ⟨tj, etj⟩ := hSi.get (wd - 1) (rowSum dn wd n (wd - 1) qq) (map_at _ (by omega))
        walk
        refine go_ (item_list hl5 hp0 (by omega) (x := .int (rowSum dn wd n i qq) ti) (by simpa using eti) ?_)
        walk
        refine go_ (item_list hl5 (by omega) (by omega) (x := .int (rowSum dn wd n (wd - 1) qq) tj) (by rw [show ((wd : Int) - 1).toNat = wd - 1 by omega]; simpa using etj) ?_)
        walk
        refine go_ (storeL S2.st.fr S2.st.news ?_)
        intro h9 k9 F16 N16
        obtain ⟨m3, wQ, hm3, F17⟩ := abs_set F16
        have S3 := S2.local F17.ns k9
        have hl9 : h9.IsList D5 sv.toArray := hl5.at fun o e => k9 _ o (isList_ne_ns hl5 S2.st.fr.ns) e
        clear F16
        walk
        exact (hCd _).mpr ⟨⟨m3, _, S3, hl9, hm3, by rw [wQ]; unfold leftVal; rw [if_pos hlt]⟩, rfl⟩
      · have hlt' : ¬ (i : Int) < (wd : Int) - 1 := by omega
        walk
        refine go_ (storeL S2.st.fr S2.st.news ?_)
        intro h9 k9 F16 N16
        obtain ⟨m3, wQ, hm3, F17⟩ := abs_set F16
        have S3 := S2.local F17.ns k9
        have hl9 : h9.IsList D5 sv.toArray := hl5.at fun o e => k9 _ o (isList_ne_ns hl5 S2.st.fr.ns) e
        clear F16
        walk
        exact (hCd _).mpr ⟨⟨m3, _, S3, hl9, hm3, by rw [wQ]; unfold leftVal; rw [if_neg hlt]⟩, rfl⟩
    · intro s' hP
      obtain ⟨⟨m, t5, S3, hl9, hm, wQ⟩, hos⟩ := (hCd _).mp hP
      clear hP hCd C
      obtain ⟨h9, g9, d9, tk9, os9⟩ := s'
      obtain rfl : os9 = s₁.os := hos
      replace w2 := hm _ _ (by decide) w2
      replace w3 := hm _ _ (by decide) w3
      replace w5 := hm _ _ (by decide) w5
      replace w6 := hm _ _ (by decide) w6
      replace w0 := hm _ _ (by decide) w0
      replace wL := hm _ _ (by decide) wL
      replace wP := hm _ _ (by decide) wP
      clear hm S2 hl5
      clear m2
      dsimp only at S3 hl9
      obtain ⟨rv, hrl, hrg⟩ := S3.st.ring
      obtain ⟨T, q1, q2, q3, e1, e2, e3, e4⟩ := hrg.2 _ hi
      obtain ⟨g1, g2, g3, g4, g5⟩ := final_good dn hn2 hn3 hw2 hw3 hq2 hi
      have F := S3.st.fr
      have N := S3.st.news
      walk
      refine go_ (item_list hrl hp0 (by omega) (x := .ref T) (by simpa using e1) ?_)
      walk
      refine go_ (item_tup (l := [_, _, _]) (j := 0) e4 (by decide) (by decide) rfl rfl ?_)
      walk
      refine go_ (item_list hrl hp0 (by omega) (x := .ref T) (by simpa using e1) ?_)
      walk
      refine go_ (item_tup (l := [_, _, _]) (j := 1) e4 (by decide) (by decide) rfl rfl ?_)
      walk
      refine go_ (item_list hrl hp0 (by omega) (x := .ref T) (by simpa using e1) ?_)
      walk
      refine go_ (item_tup (l := [_, _, _]) (j := 2) e4 (by decide) (by decide) rfl rfl ?_)
      walk
      refine go_ (rgb_ok g1 (okF X' T' S3.st.fr) (by decide) ?_)
      intro a u1 u2 u3 h10 tk10 k10 hn10 ha10
      rw [g2, g3] at ha10
      have hf10 := S3.st.fresh hn10
      have S4 := S3.keep k10
      replace hl9 : h10.IsList D5 sv.toArray := hl9.at fun o e => k10 _ o e
      replace e4 := k10 _ _ e4
      replace hrl : h10.IsList D4 rv.toArray := hrl.at fun o e => k10 _ o e
      rename Fr _ _ _ _ => Fo
      clear Fo N S3 k10 hn10 hrg
      have F := S4.st.fr
      have N := S4.st.news
      (try dsimp only)
      walk
      refine go_ (storeL S4.st.fr S4.st.news ?_)
      intro h11 k11 F16 N16
      obtain ⟨m4, wT, hm4, F17⟩ := abs_set F16
      have S5 := S4.local F17.ns k11
      have hl11 : h11.IsList D5 sv.toArray := hl9.at fun o e => k11 _ o (isList_ne_ns hl9 S4.st.fr.ns) e
      replace e4 := k11 _ _ e3 e4
      replace ha10 := k11 _ _ hf10.2 ha10
      have hrl11 : h11.IsList D4 rv.toArray := hrl.at fun o e => k11 _ o S4.st.ap.rL e
      replace w2 := hm4 _ _ (by decide) w2
      replace w3 := hm4 _ _ (by decide) w3
      replace w5 := hm4 _ _ (by decide) w5
      replace w6 := hm4 _ _ (by decide) w6
      replace w0 := hm4 _ _ (by decide) w0
      replace wL := hm4 _ _ (by decide) wL
      replace wP := hm4 _ _ (by decide) wP
      replace wQ := hm4 _ _ (by decide) wQ
      rename_i Fo _
      clear F16 N16 F17 hm4 k11 S4 hl9 hrl F N
      clear Fo
      have F := S5.st.fr
      have N := S5.st.news
      (try dsimp only)
      walk
      refine go_ (item_list hrl11 hp0 (by omega) (x := .ref T) (by simpa using e1) ?_)
      walk
      refine go_ (hue_ok g1 (by omega) (by omega) g4 ⟨X', T'⟩ S5.st.fr.keep e4 e2 (by decide) ?_)
      intro t12 h12 tk12 k12
      rw [g5]
      have S6 := S5.keep k12
      have hl12 : h12.IsList D5 sv.toArray := hl11.at fun o e => k12 _ o e
      replace ha10 := k12 _ _ ha10
      rename Fr _ _ _ _ => Fo
      clear Fo N S5 k12 hl11 hrl11 e4
      have F := S6.st.fr
      have N := S6.st.news
      (try dsimp only)
      walk
      refine go_ (item_tup (l := [_, _, _]) (j := 1) ha10 (by decide) (by decide) rfl rfl ?_)
      walk
      refine go_ (item_tup (l := [_, _, _]) (j := 2) ha10 (by decide) (by decide) rfl rfl ?_)
      walk
      refine go_ (newTuple_p (Nat.le_of_ble_eq_true rfl) ?_)
      intro a1 h13 hn13 k13 ha13
      have S7 := S6.keep k13
      have hl13 : h13.IsList D5 sv.toArray := hl12.at fun o e => k13 _ o e
      rename Fr _ _ _ _ => Fo
      clear Fo N S6 k13 hl12 ha10 hn13
      have F := S7.st.fr
      have N := S7.st.news
      (try dsimp only)
      obtain ⟨T2, q4, q5, q6, f1, f2, f3, f4⟩ := S7.st.looks.2 i hi
      have hl3 : h13.IsList D3 lv.toArray := isList_listOf (S7.st.news _ (.tail _ (.head _))).1
      walk
      refine go_ (item_list hl3 hp0 (by omega) (x := .ref T2) (by simpa using f1) ?_)
      walk
      refine go_ (item_tup (l := [_, _, _]) (j := 1) f4 (by decide) (by decide) rfl rfl ?_)
      walk
      refine go_ (item_list hl3 hp0 (by omega) (x := .ref T2) (by simpa using f1) ?_)
      walk
      refine go_ (item_tup (l := [_, _, _]) (j := 2) f4 (by decide) (by decide) rfl rfl ?_)
      walk
      refine go_ (newTuple_p (Nat.le_of_ble_eq_true rfl) ?_)
      intro a2 h14 hn14 k14 ha14
      have S8 := S7.keep k14
      have hl14 : h14.IsList D5 sv.toArray := hl13.at fun o e => k14 _ o e
      replace ha13 := k14 _ _ ha13
      rename Fr _ _ _ _ => Fo
      clear Fo N S7 k14 hl13 f4 hl3 hn14
      have F := S8.st.fr
      have N := S8.st.news
      (try dsimp only)
      walk
      refine go_ (ne_tup3 (booked_up hbk S8.st.fr.keep) (feq_share _ _) (feq_value _ _) ha13 ha14 (Nat.le_of_ble_eq_true rfl) ?_)
      have hJ : LastJ g L dn wd qq n D2 D4 D5 xw xd lv [(L + 1 + 1 + 1 + 1 + 1 + 1, o6), (D3, W.listOf lv.toArray c3), (D2, W.listOf fv.toArray c2), (L + 1 + 1 + 1 + 1 + 1, oH), (L + 1 + 1 + 1 + 1, oW)] ps la sv h14 g9 :=
        ⟨m4, { st := S8.rebase, l5 := hl14, w0 := ⟨_, w0⟩, w2 := w2, w3 := w3, w5 := w5, w6 := ⟨_, w6⟩, wL := wL }⟩
      have hJ : ∀ d t, J (i + 1) { heap := h14, gens := g9, drawn := d, toks := t, os := s₁.os } := fun _ _ => (hJd _ _).mpr ⟨hJ, rfl⟩
      have hmu := S8.st.mu
      walk
      all_goals first | exact hJ _ _ | exact hmu _ _ (by assumption) (by assumption)
  intro s' hJ
  obtain ⟨⟨m, hM⟩, hos⟩ := (hJd _ _).mp hJ
  clear hJ hJd J
  obtain ⟨hpx, gx', drx, tkx, osx⟩ := s'
  obtain rfl : osx = s₁.os := hos
  obtain ⟨S, hl5, ⟨t0, w0⟩, w2, w3, w5, ⟨t6, w6⟩, wL⟩ := hM
  clear hI0 hJ0 hfpN hgI hLI hnI
  (try dsimp only)
  repeat (rename_i x; first | clear x | revert x)
  revert w s₁ mg mb fa cd bm ob B1 g L hNL hNS M1 hL62 X' T' dn hdl wd qq n hw2 hw3 hq2 hq3 hn2 hn3 tW tH tS D2 c2 fv hFi oW dW oH dH tA D3 c3 o6 d6 lv D4 xw xd hh kt nw ep ph tz ta hN4 oC ps la t4 hp hbk ep20 tz20 n20 t12 h12 tk12 ep10 hh10 kt10 tz10 k10 t13 h13 g13 d13 tk13 a1 h14 a2 tk D5 h20 tk20 c5 h5 m9 sv hSi hN12 rB h21 tk21 tr1 tr2 tr3 m hpx gx' drx tkx S hl5 w2 w3 w5 wL t0 w0 t6 w6
  exact zHold.out
theorem pk_end : pk_s12.1 := by
  intro w s₁ mg mb fa cd bm ob B1 g L hNL hNS M1 hL62 X' T' dn hdl wd qq n hw2 hw3 hq2 hq3 hn2 hn3 tW tH tS D2 c2 fv hFi oW dW oH dH tA D3 c3 o6 d6 lv D4 xw xd hh kt nw ep ph tz ta hN4 oC ps la t4 hp hbk ep20 tz20 n20 t12 h12 tk12 ep10 hh10 kt10 tz10 k10 t13 h13 g13 d13 tk13 a1 h14 a2 tk D5 h20 tk20 c5 h5 m9 sv hSi hN12 rB h21 tk21 tr1 tr2 tr3 m hpx gx' drx tkx S hl5 w2 w3 w5 wL t0 w0 t6 w6
  w_top on
  have F := S.st.fr
  have N := S.st.news
  obtain ⟨tj, etj⟩ := hSi.get (wd - 1) (rowSum dn wd n (wd - 1) qq) (map_at _ (by omega))
  have hTot := law_total dn hn2 hw2 hq2
  have hp2 : PiecesAre ps ((List.range (wd - 1)).map (firstAt dn n)) := by
    rw [last_window dn wd (wd * qq) n (by omega) (Nat.le_mul_of_pos_right _ (by omega))] at hp; exact hp
  have hl2 : hpx.IsList D2 fv.toArray := isList_listOf (S.st.news _ (.tail _ (.tail _ (.head _)))).1
  walk
  refine go_ (item_list hl5 (by omega) (by omega) (x := .int (rowSum dn wd n (wd - 1) qq) tj) (by rw [show ((wd : Int) - 1).toNat = wd - 1 by omega]; simpa using etj) ?_)
  walk
  all_goals (try exact absurd hTot (by assumption))
  refine go_ (eval_comp fun p₃ => ?_)
  refine list_comp0 (fun i m => ∃ v, fv[i]? = some v ∧ m "press" = some v) (fun i y ob => ∃ T t u, y = .ref T ∧ ob = some (T, ({ cls := .type "tuple", data := .seq #[.str (blanks (firstAt dn n i)) t, .str (Str.ofString "") u] } : Obj))) rfl rfl (by decide) rfl (by decide) ?_
  walk
  refine go_ ⟨_, _, rfl, hl2, ?_, ?_, ?_, ?_⟩
  · rw [List.size_toArray, hFi.length]; simp; omega
  · refine go_ ?_
    intro C i v s₃ m₃ I j hv hn hit hk
    exact has_name (P := fun i v => fv[i]? = some v) rfl (lookup_relabel_local rfl) rfl (by simpa using hv) hn
  · refine go_ ?_
    intro C i s₃ m₃ hi hn hb hk hg ho hC
    obtain ⟨v, hv, hm⟩ := hb
    obtain ⟨hi', t, rfl⟩ := range_at hFi hv
    have hb := first_bd dn hn2 i
    have hb0 := hb.1
    have hb1 : firstAt dn n i < 20 := by omega
    walk
    refine go_ ?_
    try dsimp only
    refine newTuple_elt (R := fun y ob => ∃ T t u, y = .ref T ∧ ob = some (T, ({ cls := .type "tuple", data := .seq #[.str (blanks (firstAt dn n i)) t, .str (Str.ofString "") u] } : Obj))) (Nat.le_of_ble_eq_true rfl) ?_
    exact ⟨_, _, _, rfl, rfl⟩
  refine go_ (fin_eval ?_)
  intro D6 h9 tk9 ys hDn hPl hsz hG kD
  obtain ⟨c6, hD6⟩ := hPl
  have S2 := S.keep kD
  have hRb : ReadsAll h9 ys.toList (((List.range (wd - 1)).map (firstAt dn n)).map pieceD) [] := reads_made (by rw [Array.length_toList, hsz, List.size_toArray, hFi.length]; simp) fun i y e => by
    obtain ⟨ob, ⟨T, t, u, h1, rfl⟩, h2⟩ := hG i y (by simpa using e)
    exact ⟨T, t, u, h1, (h2 _ rfl).2.2⟩
  have hRa : ReadsAll h9 (piecesIts ps) (((List.range (wd - 1)).map (firstAt dn n)).map pieceD) [] := reads_pieces hp2 fun p hp => (S2.pk p hp).1
  have hsh := shaped_pieces ((List.range (wd - 1)).map (firstAt dn n)) fun k hk => by
    obtain ⟨j, _, rfl⟩ := List.mem_map.mp hk
    have := first_bd dn hn2 j
    omega
  have hev : PyData.eqv (.list (((List.range (wd - 1)).map (firstAt dn n)).map pieceD)) (.list (((List.range (wd - 1)).map (firstAt dn n)).map pieceD)) = true := by
    rw [PyData.eqv]; exact eqv_pieces _
  walk
  obtain ⟨oa, a1, a2, na, a3⟩ := S2.la
  refine go_ (eq_dataH (.list a1 a2 a3 (by simpa using hRa)) (.list hD6 rfl rfl (by simpa using hRb)) hsh hsh (Nat.le_of_ble_eq_true rfl) ?_)
  rw [hev]
  have hk2 := S2.st.fr.keep
  have ht2 := S2.st.tab
  have hb2 := S2.st.bare
  walk
  all_goals first | exact ht2 | exact hb2 | exact hk2 _ _ (by assumption)
theorem law_holds : PySem.Challenge.rw_wu0016_01.Holds := (Hold.step pk_s1 (Hold.step pk_s2 (Hold.step pk_s3 (Hold.step pk_s4 (Hold.step pk_s5 (Hold.step pk_s6 (Hold.step pk_s7 (Hold.step pk_s8 (Hold.step pk_s9 (Hold.step pk_s10 (Hold.step pk_s11 (Hold.step pk_s12 (Hold.mk pk_end))))))))))))).out
end Mine
theorem PySem.Challenge.cw_wu0016_01_holds : PySem.Challenge.rw_wu0016_01.Holds := by
  exact Mine.law_holds
