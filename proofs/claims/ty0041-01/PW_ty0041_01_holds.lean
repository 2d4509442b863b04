import PyProof.Rows.All
import Wide.All
import OpenK.AllK
import Wide.FinOn
import PySem.Challenge.RW_ty0041_01
set_option Elab.async false
open PySem.W PyProof.Rows
local macro_rules | `(tactic| walk_at $s:str) => `(tactic| k_extra $s)
section TyTopPart
open PySem PySem.W PyProof.Rows
name_quick tw4341686975125549735 for PySem.W.S.findZ by PySem.W.S.findZ_eq
name_quick tw5984237650435481602 for PySem.W.S.findZ by PySem.W.S.findZ_eq
name_quick tw17455179189975343692 for PySem.W.S.findZ by PySem.W.S.findZ_eq
name_quick tw9828158544363216435 for PySem.W.S.findZ by PySem.W.S.findZ_eq
name_quick tw10246445511623300793 for PySem.W.S.findZ by PySem.W.S.findZ_eq
name_quick tw11371214959461330601 for PySem.W.S.findZ by PySem.W.S.findZ_eq
name_quick tw9291842765654501716 for PySem.W.S.findZ by PySem.W.S.findZ_eq
name_quick tw95465317272262094 for PySem.W.S.findZ by PySem.W.S.findZ_eq
name_quick tw5436557407429537439 for PySem.W.S.findZ by PySem.W.S.findZ_eq
name_quick tw18046740166531859583 for PySem.W.S.findZ by PySem.W.S.findZ_eq
name_quick tw16023394824881751583 for PySem.W.S.findZ by PySem.W.S.findZ_eq
name_quick tw13173402328357388314 for PySem.W.S.findZ by PySem.W.S.findZ_eq
name_quick tw13696128649517033248 for PySem.W.S.findZ by PySem.W.S.findZ_eq
name_quick tw13098662762655176806 for PySem.W.S.findZ by PySem.W.S.findZ_eq
name_quick tw16633373422680834380 for PySem.W.S.findZ by PySem.W.S.findZ_eq
name_quick tw8692590318287302091 for PySem.W.S.findZ by PySem.W.S.findZ_eq
name_quick tw8542343623638020390 for PySem.W.S.findZ by PySem.W.S.findZ_eq
name_quick tw15099715425726972605 for PySem.W.S.findZ by PySem.W.S.findZ_eq
name_quick tw4707866862428097091 for PySem.W.S.findZ by PySem.W.S.findZ_eq
name_quick tw15966082658126147484 for PySem.W.S.findZ by PySem.W.S.findZ_eq
name_quick tw11002695598887446111 for PySem.W.S.findZ by PySem.W.S.findZ_eq
name_quick tw8293672239332169914 for PySem.W.S.findZ by PySem.W.S.findZ_eq
name_quick tw4486400648490790607 for PySem.W.S.findZ by PySem.W.S.findZ_eq
name_quick tw7482936911834895098 for PySem.W.S.findZ by PySem.W.S.findZ_eq
name_quick tw14375665146703046298 for PySem.W.S.findZ by PySem.W.S.findZ_eq
name_quick tw13056077294717568279 for PySem.W.S.findZ by PySem.W.S.findZ_eq
name_quick tw10021554235837799871 for PySem.W.S.findZ by PySem.W.S.findZ_eq
name_quick tw15936449894686224152 for PySem.W.S.findZ by PySem.W.S.findZ_eq
name_quick tw16697005418444583490 for PySem.W.S.findZ by PySem.W.S.findZ_eq
name_quick tw9046124897175187741 for PySem.W.S.findZ by PySem.W.S.findZ_eq
name_quick tw774059934974224745 for PySem.W.S.findZ by PySem.W.S.findZ_eq
name_quick tw8009269730944016453 for PySem.W.S.findZ by PySem.W.S.findZ_eq
name_quick tw6775530352518833662 for PySem.W.S.findZ by PySem.W.S.findZ_eq
name_quick tw14468508603850481984 for PySem.W.S.findZ by PySem.W.S.findZ_eq
name_quick tw18392396370076659058 for PySem.W.S.findZ by PySem.W.S.findZ_eq
name_quick tw9610479639303123461 for PySem.W.S.findZ by PySem.W.S.findZ_eq
name_quick tw4475979809605133978 for PySem.W.S.findZ by PySem.W.S.findZ_eq
name_quick tw1558683145343380896 for PySem.W.S.findZ by PySem.W.S.findZ_eq
name_quick tw4070381018041519625 for PySem.W.S.findZ by PySem.W.S.findZ_eq
name_quick tw16414755391625610244 for PySem.W.S.findZ by PySem.W.S.findZ_eq
name_quick tw2293355413127633169 for PySem.W.S.findZ by PySem.W.S.findZ_eq
name_quick tw7842549362532093886 for PySem.W.S.findZ by PySem.W.S.findZ_eq
name_quick tw3219097700913234247 for PySem.W.S.findZ by PySem.W.S.findZ_eq
name_quick tw6331375007369577233 for PySem.W.S.findZ by PySem.W.S.findZ_eq
name_quick tw11885599374481360844 for PySem.W.S.findZ by PySem.W.S.findZ_eq
name_quick tw9137976944624659944 for PySem.W.S.findZ by PySem.W.S.findZ_eq
name_quick tw4445144676709389591 for PySem.W.S.findZ by PySem.W.S.findZ_eq
name_quick tw11944726359215462091 for PySem.W.S.findZ by PySem.W.S.findZ_eq
name_quick tw8552277631648161845 for PySem.W.S.findZ by PySem.W.S.findZ_eq
name_quick tw12089391580895777900 for PySem.W.S.findZ by PySem.W.S.findZ_eq
name_quick tw11288543568631007762 for PySem.W.S.findZ by PySem.W.S.findZ_eq
name_quick tw6418859423415649206 for PySem.W.S.findZ by PySem.W.S.findZ_eq
name_quick tw3744426509204913380 for PySem.W.S.findZ by PySem.W.S.findZ_eq
name_quick tw12944193752813358991 for PySem.W.S.findZ by PySem.W.S.findZ_eq
name_quick tw13195108004522262073 for PySem.W.S.findZ by PySem.W.S.findZ_eq
name_quick tw7342649782935763811 for PySem.W.S.findZ by PySem.W.S.findZ_eq
name_quick tw2313321041551794881 for PySem.W.S.findZ by PySem.W.S.findZ_eq
name_quick tw14945232485642026098 for PySem.W.S.findZ by PySem.W.S.findZ_eq
name_quick tw11462641788296057089 for PySem.W.S.findZ by PySem.W.S.findZ_eq
name_quick tw13941951752197423277 for PySem.W.S.findZ by PySem.W.S.findZ_eq
name_quick tw17928936184175480882 for PySem.W.S.findZ by PySem.W.S.findZ_eq
name_quick tw1585618608398195048 for PySem.W.S.findZ by PySem.W.S.findZ_eq
namespace Ty
set_option maxRecDepth 100000 in
set_option maxHeartbeats 8000000 in
open_top hd for PySem.Challenge.rw_ty0041_01
end Ty

end TyTopPart
section TyBasePart
open PySem PySem.W PyProof.Rows PySem.Calls PySem.Spec
set_option maxRecDepth 100000
namespace Ty
theorem rst_TyBase : True := by
  w_top off
  k_with_none
  trivial
abbrev looseL : List Str := [Str.ofString "ONE_THIRD", Str.ofString "ONE_SIXTH", Str.ofString "TWO_THIRD", Str.ofString "EXACT_TOKEN_TYPES"]

/-- a def of the text is entered: its base is the caller's whole heap -/
theorem enter {prog : Program} {w : World} {K : Frag} {p : Program} {loose : List Str} {mean : ExcName → Option Value} {mg mb : Str → Option Value}
    {dp un : Nat} {gd : Option (List Code)} {cn : Str} {cs : Scope} {L a : Addr} {ccd : Value} {cl : List (Str × Addr)} {outer : List Env} {A₀ : Around} {base h₀ : Heap} {m : Str → Option Value} {s : Shared}
    {Q E : Value → Shared → Prop} {name qual : Str} {params : Arguments} {body : List Stmt} {scope : Scope} {dV kV doc pm cdv ct oc : Value} {an od : Option Addr} {osl : Array (Option Value)} {f : Addr} {vs : List Value} {binds : List (Str × Value)}
    (B : Below A₀ base outer h₀) (F : Fr h₀ L s.heap m) (X : K.In h₀) (T : Top p loose mean mg mb h₀) (hke : cs.kind = .function)
    (ho : K.lookup f = some ⟨oc, od, .func (fnOf name qual params body scope dV kV doc pm an cdv ct), osl⟩) (hcd : codeIn K cdv qual = true) (hroom : dp < recursionLimit)
    (hbind : BindsTo s (fnOf name qual params body scope dV kV doc pm an cdv ct) ⟨vs, []⟩ binds) (hloc : ∀ y ∈ binds, scope.names.lookup y.1 = some .local)
    (h : ∀ L' h₁, Fr s.heap L' h₁ (fun y => binds.reverse.lookup y) → News s.heap L' h₁ [] → Below (ktrTop dp un gd cn cs L a ccd cl outer) base (envX cn cs L a ccd cl :: outer) s.heap → K.In s.heap → Top p loose mean mg mb s.heap →
      wpAny (model prog w) (ktrTop (dp + 1) (un + 3) gd qual scope L' f cdv [] (envX cn cs L a ccd cl :: outer)) (execs body (envX qual scope L' f cdv []))
        (fun fl s' => Q (match fl with | .ret v => v | _ => .none) s')
        (fun e s' => wpAny (model prog w) (ktrTop (dp + 1) (un + 3) gd qual scope L' f cdv [] (envX cn cs L a ccd cl :: outer)) (leaving (envX qual scope L' f cdv []) e) (fun _ s'' => E e s'') (fun e' s'' => E e' s'') s')
        { s with heap := h₁, toks := s.toks + binds.length })
    (hcell : ∀ x ∈ scope.names, x.2 ≠ .cell) (hco : scope.isCoroutine = false := by rfl) (hgen : scope.isGenerator = false := by rfl) (hk : scope.kind = .function := by rfl) :
    wpAny (model prog w) (ktrTop dp un gd cn cs L a ccd cl outer) (call (.ref f) vs) Q E s := by
  have nm : ∀ b o, h₀.get? b = some o → s.heap.get? b = some o := F.keep
  have B₁ := pushX (env := envX cn cs L a ccd cl) B F rfl hke
  refine wpAny_call (codeAny_call_def (fd := fnOf name qual params body scope dV kV doc pm an cdv ct) (body := body) (binds := binds) hroom (nm _ _ (X _ _ ho)) rfl (T.nolimit.keeps nm) (codeRec_of (X.keeps nm) hcd) rfl hbind hcell hloc (fun h₁ hns hk₁ => ?_) hco hgen hk)
  exact wpAny_mono (h s.heap.objs.size h₁ ⟨hns, hk₁, Nat.le_refl _⟩ (fun _ hp => nomatch hp) ⟨rfl, fun b o e => B₁.stays b o e, B₁.frames⟩ (X.keeps nm) (T.keeps nm)) (fun fl s' hl => hl) fun _ _ y => y

abbrev looseV : List (Str × WData) := [(Str.ofString "ONE_THIRD", WData.float 4599676419421066581), (Str.ofString "ONE_SIXTH", WData.float 4595172819793696085), (Str.ofString "TWO_THIRD", WData.float 4604180019048437077)]

def Ret (s : Shared) (Q : Value → Shared → Prop) (Post : Value → Heap → Prop) : Prop :=
  ∀ r h' tk', (∀ b o, s.heap.get? b = some o → h'.get? b = some o) → Post r h' → Q r { s with heap := h', toks := tk' }

/-- what a call of the def at f hands back: all that stood stands, Post of the value -/
def Meets (prog : Program) (w : World) (f : Addr) (n : Nat) (vs : List Value) (Pre : Heap → Prop) (Post : Heap → Value → Heap → Prop) : Prop :=
  ∀ (mean : ExcName → Option Value) (mg mb : Str → Option Value) (dp un : Nat) (gd : Option (List Code)) (cn : Str) (cs : Scope) (L a : Addr) (ccd : Value) (cl : List (Str × Addr)) (outer : List Env) (A₀ : Around) (base h₀ : Heap)
    (m : Str → Option Value) (s : Shared) (Q E : Value → Shared → Prop),
    Below A₀ base outer h₀ → Fr h₀ L s.heap m → (Ty.hd.heap_39 w.params).In h₀ → Top Ty.hd.view_39 (looseW Ty.hd.view_39 looseL) mean mg mb h₀ → LooseAre looseV mg h₀ → cs.kind = .function →
    dp + n < recursionLimit → un + 8 * n < cLine → Pre s.heap → Ret s Q (Post s.heap) →
    wpAny (model prog w) (ktrTop dp un gd cn cs L a ccd cl outer) (call (.ref f) vs) Q E s
/-- the model, what stands around and the frame get names, so that what is carried along stays small -/
theorem fold3 {M : Model} {A : Around} {e : Env} {b : List Stmt} {Q : Flow → Shared → Prop} {E : Value → Shared → Prop} {s : Shared} (h : let Mv := M; let Av := A; let ev := e; wpAny Mv Av (execs b ev) Q E s) : wpAny M A (execs b e) Q E s := h
end Ty

end TyBasePart
section TyFPart
open PySem PySem.W PyProof.Rows PySem.Calls PySem.Spec PySem.Flt
set_option maxRecDepth 100000
namespace Ty
theorem rst_TyF : True := by
  w_top off
  k_with_none
  trivial
def fLt (a b : UInt64) : Bool := Float64.cmp a b == some Ordering.lt
/-- Python's max of three floats -/
def max3 (a b c : UInt64) : UInt64 :=
  if fLt a b = true then (if fLt b c = true then c else b) else (if fLt a c = true then c else a)
def min3 (a b c : UInt64) : UInt64 :=
  if fLt b a = true then (if fLt c b = true then c else b) else (if fLt c a = true then c else a)

theorem ltV_ff (x y : UInt64) (t u : Tok) : ltV (.float x t) (.float y u) = fLt x y := rfl
theorem max_three_ff {prog : Program} {w : World} {A : Around} {E : Value → Shared → Prop} {s : Shared} {Q : Value → Shared → Prop} {a b c : UInt64} {t u x : Tok} (hh : A.handled = none)
    (h : ∀ v h' tk, (∀ c o, s.heap.get? c = some o → h'.get? c = some o) → Q (.float (max3 a b c) v) { s with heap := h', toks := tk }) :
    wpAny (model prog w) A (call (.builtin "max") [.float a t, .float b u, .float c x]) Q E s := by
  have hT : (s.heap.push { cls := .type "tuple", data := .seq #[.float a t, .float b u, .float c x] }).IsTuple s.heap.objs.size #[.float a t, .float b u, .float c x] := ⟨_, Heap.get?_push_size _ rfl, rfl, 0, rfl⟩
  refine call_max_three (wpAny_pyIter_tuple hT ?_)
  have hsz : (s.heap.push { cls := .type "tuple", data := .seq #[.float a t, .float b u, .float c x] }).objs.size = s.heap.objs.size + 1 := Heap.size_push ..
  refine ⟨_, [_, s.heap.objs.size], [_], _, _, _, _, rfl, Walks.tuple (A := A.in1) hh _ s.heap.objs.size (by rw [hsz]; exact Nat.ne_of_lt (Nat.lt_succ_self _)) #[.float a t, .float b u, .float c x],
    ⟨⟨_, Heap.get?_push_size _ rfl, rfl, rfl⟩, hT.push _⟩, fun d hd => ?_, by simp, cmpOf_gt #[.float a t, .float b u, .float c x] (by simp [NumV.float]), fun v h' tk hP hk => ?_⟩
  · show d < ((s.heap.push _).push _).objs.size
    rw [Heap.size_push, hsz]
    rcases List.mem_cons.mp hd with rfl | hd
    · rw [hsz]; exact Nat.lt_succ_self _
    · rcases List.mem_cons.mp hd with rfl | hd
      · exact Nat.lt_succ_of_lt (Nat.lt_succ_self _)
      · cases hd
  · have hold : ∀ c o, s.heap.get? c = some o → h'.get? c = some o := fun c o e => by
      refine hk c o (fun hm => ?_) (Heap.get?_push_of_some _ (Heap.get?_push_of_some _ e))
      rcases List.mem_cons.mp hm with e1 | hm
      · have := Heap.lt_size e; rw [e1, hsz] at this; exact Nat.lt_irrefl _ (Nat.lt_of_succ_lt this)
      · cases hm
    have hv : ∃ v', v = .float (max3 a b c) v' := by
      by_cases h1 : fLt a b = true <;> by_cases h2 : fLt b c = true <;> by_cases h3 : fLt a c = true <;> simp [argBest, ltV_ff, h1, h2, h3] at hP <;> simp [← hP, max3, h1, h2, h3]
    obtain ⟨v', hv⟩ := hv
    rw [hv]; exact h v' h' tk hold
theorem min_three_ff {prog : Program} {w : World} {A : Around} {E : Value → Shared → Prop} {s : Shared} {Q : Value → Shared → Prop} {a b c : UInt64} {t u x : Tok} (hh : A.handled = none)
    (h : ∀ v h' tk, (∀ c o, s.heap.get? c = some o → h'.get? c = some o) → Q (.float (min3 a b c) v) { s with heap := h', toks := tk }) :
    wpAny (model prog w) A (call (.builtin "min") [.float a t, .float b u, .float c x]) Q E s := by
  have hT : (s.heap.push { cls := .type "tuple", data := .seq #[.float a t, .float b u, .float c x] }).IsTuple s.heap.objs.size #[.float a t, .float b u, .float c x] := ⟨_, Heap.get?_push_size _ rfl, rfl, 0, rfl⟩
  refine call_min_three (wpAny_pyIter_tuple hT ?_)
  have hsz : (s.heap.push { cls := .type "tuple", data := .seq #[.float a t, .float b u, .float c x] }).objs.size = s.heap.objs.size + 1 := Heap.size_push ..
  refine ⟨_, [_, s.heap.objs.size], [_], _, _, _, _, rfl, Walks.tuple (A := A.in1) hh _ s.heap.objs.size (by rw [hsz]; exact Nat.ne_of_lt (Nat.lt_succ_self _)) #[.float a t, .float b u, .float c x],
    ⟨⟨_, Heap.get?_push_size _ rfl, rfl, rfl⟩, hT.push _⟩, fun d hd => ?_, by simp, cmpOf_lt #[.float a t, .float b u, .float c x] (by simp [NumV.float]), fun v h' tk hP hk => ?_⟩
  · show d < ((s.heap.push _).push _).objs.size
    rw [Heap.size_push, hsz]
    rcases List.mem_cons.mp hd with rfl | hd
    · rw [hsz]; exact Nat.lt_succ_self _
    · rcases List.mem_cons.mp hd with rfl | hd
      · exact Nat.lt_succ_of_lt (Nat.lt_succ_self _)
      · cases hd
  · have hold : ∀ c o, s.heap.get? c = some o → h'.get? c = some o := fun c o e => by
      refine hk c o (fun hm => ?_) (Heap.get?_push_of_some _ (Heap.get?_push_of_some _ e))
      rcases List.mem_cons.mp hm with e1 | hm
      · have := Heap.lt_size e; rw [e1, hsz] at this; exact Nat.lt_irrefl _ (Nat.lt_of_succ_lt this)
      · cases hm
    have hv : ∃ v', v = .float (min3 a b c) v' := by
      by_cases h1 : fLt b a = true <;> by_cases h2 : fLt c b = true <;> by_cases h3 : fLt c a = true <;> simp [argBest, ltV_ff, h1, h2, h3] at hP <;> simp [← hP, min3, h1, h2, h3]
    obtain ⟨v', hv⟩ := hv
    rw [hv]; exact h v' h' tk hold
end Ty

end TyFPart
section TyVPart
open PySem PySem.W PyProof.Rows PySem.Calls PySem.Spec PySem.Flt
set_option maxRecDepth 100000
namespace Ty
theorem rst_TyV : True := by
  w_top off
  k_with_none
  trivial
theorem ret_of {s s' : Shared} {L' : Addr} {h' : Heap} {m' : Str → Option Value} {tk : Nat} {Q : Value → Shared → Prop} {Post : Value → Heap → Prop} {r : Value}
    (hret : Ret s Q Post) (F : Fr s.heap L' h' m') (p : Post r h') (e : s' = { s with heap := h', toks := tk } := by rfl) : Q r s' := by
  subst e
  exact hret _ _ _ F.keep p
theorem max3_K {prog : Program} {w : World} {A : Around} {E : Value → Shared → Prop} {s : Shared} {Q : Value → Shared → Prop} {a b c : UInt64} {t u x : Tok} {h₀ : Heap} {L : Addr} {m : Str → Option Value} {news : List (Addr × Obj)} (hh : A.handled = none)
    (F : Fr h₀ L s.heap m) (N : News h₀ L s.heap news)
    (h : ∀ v h' tk, Fr h₀ L h' m → News h₀ L h' news → Q (.float (max3 a b c) v) { s with heap := h', toks := tk }) :
    wpAny (model prog w) A (call (.builtin "max") [.float a t, .float b u, .float c x]) Q E s := max_three_ff hh fun v h' tk k => h v h' tk (F.grownK k) (N.grown k)
theorem min3_K {prog : Program} {w : World} {A : Around} {E : Value → Shared → Prop} {s : Shared} {Q : Value → Shared → Prop} {a b c : UInt64} {t u x : Tok} {h₀ : Heap} {L : Addr} {m : Str → Option Value} {news : List (Addr × Obj)} (hh : A.handled = none)
    (F : Fr h₀ L s.heap m) (N : News h₀ L s.heap news)
    (h : ∀ v h' tk, Fr h₀ L h' m → News h₀ L h' news → Q (.float (min3 a b c) v) { s with heap := h', toks := tk }) :
    wpAny (model prog w) A (call (.builtin "min") [.float a t, .float b u, .float c x]) Q E s := min_three_ff hh fun v h' tk k => h v h' tk (F.grownK k) (N.grown k)


theorem ln_TyV_1 : True := by
  k_with_none
  k_with "execs cons" => (k_here; (with_reducible refine wpAny_execs_cons ?_); k_unmd; k_fold)
  k_with "call builtin:max" => (k_here; (with_reducible show wpAny _ _ (call _ [Value.float _ _, Value.float _ _, Value.float _ _]) _ _ _); refine max3_K rfl (by k_asm) (by k_asm) ?_; intro v9k h9k tk9k F9k N9k)
  k_with "call builtin:min" => (k_here; (with_reducible show wpAny _ _ (call _ [Value.float _ _, Value.float _ _, Value.float _ _]) _ _ _); refine min3_K rfl (by k_asm) (by k_asm) ?_; intro v9k h9k tk9k F9k N9k)
  trivial
theorem float_ex {x y : UInt64} {t : Tok} (h : x = y) : ∃ u, Value.float x t = Value.float y u := ⟨t, h ▸ rfl⟩
def tupleOf (vs : List Value) : Obj := { cls := .type "tuple", data := .seq vs.toArray }
theorem floats_ex {h h' : Heap} {D : Addr} {a b c x y z : UInt64} {t1 t2 t3 : Tok} (hn : h.get? D = none) (hg : h'.get? D = some { cls := .type "tuple", data := .seq #[.float a t1, .float b t2, .float c t3] }) (ha : a = x) (hb : b = y) (hc : c = z) :
    ∃ D' u1 u2 u3, Value.ref D = .ref D' ∧ h.get? D' = none ∧ h'.get? D' = some (tupleOf [.float x u1, .float y u2, .float z u3]) := by
  subst ha hb hc
  exact ⟨D, t1, t2, t3, rfl, hn, hg⟩

def vF (m1 m2 hue : UInt64) : UInt64 :=
  if fLt (Float64.divmod hue 4607182418800017408).snd 4595172819793696085 = true then Float64.add m1 (Float64.mul (Float64.mul (Float64.sub m2 m1) (Float64.divmod hue 4607182418800017408).snd) 4618441417868443648)
  else if fLt (Float64.divmod hue 4607182418800017408).snd 4602678819172646912 = true then m2
  else if fLt (Float64.divmod hue 4607182418800017408).snd 4604180019048437077 = true then Float64.add m1 (Float64.mul (Float64.mul (Float64.sub m2 m1) (Float64.sub 4604180019048437077 (Float64.divmod hue 4607182418800017408).snd)) 4618441417868443648)
  else m1
set_option maxHeartbeats 4000000 in
theorem v_meets {prog : Program} {w : World} {m1 m2 hue : UInt64} {t1 t2 t3 : Tok} :
    Meets prog w 35 1 [.float m1 t1, .float m2 t2, .float hue t3] (fun _ => True) (fun _ r _ => ∃ t, r = .float (vF m1 m2 hue) t) := by
  intro mean mg mb dp un gd cn cs L a ccd cl outer A₀ base h₀ m s Q E B F X T V hk hd hu hp hret
  have V1 := V.keeps F.keep
  have hroom : dp < recursionLimit := by omega
  refine enter (w := w) (binds := [(Str.ofString "m1", .float m1 t1), (Str.ofString "m2", .float m2 t2), (Str.ofString "hue", .float hue t3)]) B F X T hk (by k_is) (by k_is) hroom (BindsTo.of_eq rfl) (locs rfl) ?_ (by decide)
  intro L' h₁ F' N' B' X' T'
  clear X T B hp hd hu
  k_fold
  refine fold3 ?_
  intro Mv Av ev
  k_steps
  all_goals (
    (try dsimp only)
    (try k_unfold)
    (try dsimp only)
    refine ret_of hret (by assumption) (float_ex ?_)
    simp only [vF, fLt, *, if_true, if_false, Bool.false_eq_true])

/-- a float's <= as the walk says it -/
def fLe (a b : UInt64) : Bool := Float64.cmp a b == some Ordering.lt || Float64.cmp a b == some Ordering.eq
def fEq (a b : UInt64) : Bool := Float64.cmp a b == some Ordering.eq
def rgbH (r g b : UInt64) : UInt64 :=
  (Float64.divmod (Float64.div (
    if fEq r (max3 r g b) = true then Float64.sub (Float64.div (Float64.sub (max3 r g b) b) (Float64.sub (max3 r g b) (min3 r g b))) (Float64.div (Float64.sub (max3 r g b) g) (Float64.sub (max3 r g b) (min3 r g b)))
    else if fEq g (max3 r g b) = true then Float64.sub (Float64.add 4611686018427387904 (Float64.div (Float64.sub (max3 r g b) r) (Float64.sub (max3 r g b) (min3 r g b)))) (Float64.div (Float64.sub (max3 r g b) b) (Float64.sub (max3 r g b) (min3 r g b)))
    else Float64.sub (Float64.add 4616189618054758400 (Float64.div (Float64.sub (max3 r g b) g) (Float64.sub (max3 r g b) (min3 r g b)))) (Float64.div (Float64.sub (max3 r g b) r) (Float64.sub (max3 r g b) (min3 r g b))))
    4618441417868443648) 4607182418800017408).snd
def rgbL (r g b : UInt64) : UInt64 := Float64.div (Float64.add (max3 r g b) (min3 r g b)) 4611686018427387904
def rgbS (r g b : UInt64) : UInt64 :=
  if fLe (rgbL r g b) 4602678819172646912 = true then Float64.div (Float64.sub (max3 r g b) (min3 r g b)) (Float64.add (max3 r g b) (min3 r g b))
  else Float64.div (Float64.sub (max3 r g b) (min3 r g b)) (Float64.sub (Float64.sub 4611686018427387904 (max3 r g b)) (min3 r g b))
def isGrey (r g b : UInt64) : Bool := fEq (min3 r g b) (max3 r g b)
def hlsOf (r g b : UInt64) : UInt64 × UInt64 × UInt64 := if isGrey r g b = true then (0, rgbL r g b, 0) else (rgbH r g b, rgbL r g b, rgbS r g b)
def rgbOk (r g b : UInt64) : Bool := isGrey r g b || (!Float64.isZero (Float64.add (max3 r g b) (min3 r g b)) && !Float64.isZero (Float64.sub (Float64.sub 4611686018427387904 (max3 r g b)) (min3 r g b)) && !Float64.isZero (Float64.sub (max3 r g b) (min3 r g b)))
theorem rgbOk_nz {r g b : UInt64} (h : rgbOk r g b = true) (hg : (Float64.cmp (min3 r g b) (max3 r g b) == some Ordering.eq) = false) :
    ¬ Float64.isZero (Float64.add (max3 r g b) (min3 r g b)) = true ∧ ¬ Float64.isZero (Float64.sub (Float64.sub 4611686018427387904 (max3 r g b)) (min3 r g b)) = true ∧ ¬ Float64.isZero (Float64.sub (max3 r g b) (min3 r g b)) = true := by
  simp only [rgbOk, isGrey, fEq, hg, Bool.false_or, Bool.and_eq_true, Bool.not_eq_true'] at h
  obtain ⟨⟨h1, h2⟩, h3⟩ := h
  simp [h1, h2, h3]

theorem ln_TyV_2 : True := by
  k_with "binaryOp Div float float" => (k_here; refine truediv_float_or rfl (fun hz => absurd hz (by first | (exact (rgbOk_nz (by assumption) (by assumption)).1) | (exact (rgbOk_nz (by assumption) (by assumption)).2.1) | (exact (rgbOk_nz (by assumption) (by assumption)).2.2) | decide +kernel)) (fun _ => ?_); (try dsimp only))
  trivial
set_option maxHeartbeats 8000000 in
theorem rgb_meets {prog : Program} {w : World} {r g b : UInt64} {t1 t2 t3 : Tok} (hok : rgbOk r g b = true) :
    Meets prog w 21 1 [.float r t1, .float g t2, .float b t3] (fun _ => True)
      (fun h v h' => ∃ D u1 u2 u3, v = .ref D ∧ h.get? D = none ∧ h'.get? D = some (tupleOf [.float (hlsOf r g b).1 u1, .float (hlsOf r g b).2.1 u2, .float (hlsOf r g b).2.2 u3])) := by
  intro mean mg mb dp un gd cn cs L a ccd cl outer A₀ base h₀ m s Q E B F X T V hk hd hu hp hret
  have V1 := V.keeps F.keep
  have hroom : dp < recursionLimit := by omega
  refine enter (w := w) (binds := [(Str.ofString "r", .float r t1), (Str.ofString "g", .float g t2), (Str.ofString "b", .float b t3)]) B F X T hk (by k_is) (by k_is) hroom (BindsTo.of_eq rfl) (locs rfl) ?_ (by decide) 
  intro L' h₁ F' N' B' X' T'
  clear X T B hp hd hu
  k_fold
  refine fold3 ?_
  intro Mv Av ev
  k_steps
  all_goals (
    (try dsimp only)
    (try k_unfold)
    (try dsimp only)
    (rename News _ _ _ _ => NN)
    have hN := NN _ (.head _)
    refine ret_of hret (by assumption) (floats_ex hN.2.2 hN.1 ?_ ?_ ?_) <;> simp only [hlsOf, isGrey, rgbH, rgbL, rgbS, fEq, fLe, *, if_true, if_false, Bool.false_eq_true])
end Ty

end TyVPart
section TyHPart
open PySem PySem.W PyProof.Rows PySem.Calls PySem.Spec PySem.Flt
set_option maxRecDepth 100000
namespace Ty
theorem rst_TyH : True := by
  w_top off
  k_with_none
  trivial
theorem Meets.use {prog : Program} {w : World} {f : Addr} {n : Nat} {vs : List Value} {Pre : Heap → Prop} {Post : Heap → Value → Heap → Prop} (M : Meets prog w f n vs Pre Post)
    {mean : ExcName → Option Value} {mg mb : Str → Option Value} {dp un : Nat} {gd : Option (List Code)} {cn : Str} {cs : Scope} {L a : Addr} {ccd : Value} {cl : List (Str × Addr)} {outer : List Env} {A₀ : Around} {base h₀ : Heap}
    {m : Str → Option Value} {s : Shared} {Q E : Value → Shared → Prop} {news : List (Addr × Obj)}
    (B : Below A₀ base outer h₀) (F : Fr h₀ L s.heap m) (N : News h₀ L s.heap news) (X : (Ty.hd.heap_39 w.params).In h₀) (T : Top Ty.hd.view_39 (looseW Ty.hd.view_39 looseL) mean mg mb h₀) (V : LooseAre looseV mg h₀) (hk : cs.kind = .function)
    (hd : dp + n < recursionLimit) (hu : un + 8 * n < cLine) (hp : Pre s.heap)
    (h : ∀ r h' tk', Fr h₀ L h' m → News h₀ L h' news → (∀ b o, s.heap.get? b = some o → h'.get? b = some o) → Post s.heap r h' → Q r { s with heap := h', toks := tk' }) :
    wpAny (model prog w) (ktrTop dp un gd cn cs L a ccd cl outer) (call (.ref f) vs) Q E s :=
  M mean mg mb dp un gd cn cs L a ccd cl outer A₀ base h₀ m s Q E B F X T V hk hd hu hp fun r h' tk' k p => h r h' tk' (F.grownK k) (N.grown k) k p


theorem ln_TyH_1 : True := by
  k_with_none
  k_with "execs cons" => (k_here; (with_reducible refine wpAny_execs_cons ?_); k_unmd; k_fold)
  k_with "room" => (first | omega | (simp only [recursionLimit, cLine] at *; omega))
  k_with "call ref" => (k_here; k_dflt (refine Meets.use v_meets (by k_asm) (by k_asm) (by k_asm) (by k_asm) (by k_asm) (by k_asm) rfl (by k_extra "room") (by k_extra "room") (by trivial) ?_); intro r9k h9k tk9k F9k N9k _ hp9k; obtain ⟨t9k, he9k⟩ := hp9k; subst he9k; (try dsimp only))
  trivial
def hlsM2 (l s : UInt64) : UInt64 := if fLe l 4602678819172646912 = true then Float64.mul l (Float64.add 4607182418800017408 s) else Float64.sub (Float64.add l s) (Float64.mul l s)
def hlsM1 (l s : UInt64) : UInt64 := Float64.sub (Float64.mul 4611686018427387904 l) (hlsM2 l s)
def rgbOf (h l s : UInt64) : UInt64 × UInt64 × UInt64 :=
  if fEq s 0 = true then (l, l, l) else
  (vF (hlsM1 l s) (hlsM2 l s) (Float64.add h 4599676419421066581), vF (hlsM1 l s) (hlsM2 l s) h, vF (hlsM1 l s) (hlsM2 l s) (Float64.sub h 4599676419421066581))
set_option maxHeartbeats 8000000 in
theorem hls_meets {prog : Program} {w : World} {x l z : UInt64} {t1 t2 t3 : Tok} :
    Meets prog w 28 2 [.float x t1, .float l t2, .float z t3] (fun _ => True)
      (fun h v h' => ∃ D u1 u2 u3, v = .ref D ∧ h.get? D = none ∧ h'.get? D = some (tupleOf [.float (rgbOf x l z).1 u1, .float (rgbOf x l z).2.1 u2, .float (rgbOf x l z).2.2 u3])) := by
  intro mean mg mb dp un gd cn cs L a ccd cl outer A₀ base h₀ m s Q E B F X T V hk hd hu hp hret
  have V1 := V.keeps F.keep
  have hroom : dp < recursionLimit := by omega
  refine enter (w := w) (binds := [(Str.ofString "h", .float x t1), (Str.ofString "l", .float l t2), (Str.ofString "s", .float z t3)]) B F X T hk (by k_is) (by k_is) hroom (BindsTo.of_eq rfl) (locs rfl) ?_ (by decide)
  intro L' h₁ F' N' B' X' T'
  clear X T B hp V
  k_fold
  refine fold3 ?_
  intro Mv Av ev
  k_steps
  all_goals (
    (try dsimp only)
    (try k_unfold)
    (try dsimp only)
    (rename News _ _ _ _ => NN)
    have hN := NN _ (.head _)
    refine ret_of hret (by assumption) (floats_ex hN.2.2 hN.1 ?_ ?_ ?_) <;> simp only [rgbOf, hlsM1, hlsM2, fEq, fLe, *, if_true, if_false, Bool.false_eq_true])
end Ty

end TyHPart
section TyPPart
open PySem PySem.W PyProof.Rows PySem.Calls PySem.Spec PySem.Flt
set_option maxRecDepth 100000
namespace Ty
theorem rst_TyP : True := by
  w_top off
  k_with_none
  trivial
def eighth (a : Int) : UInt64 := Float64.ofFrac false a.natAbs 8
def turned (a b c : Int) : UInt64 × UInt64 × UInt64 :=
  rgbOf (Float64.add (hlsOf (eighth a) (eighth b) (eighth c)).1 4602678819172646912) (Float64.sub 4607182418800017408 (hlsOf (eighth a) (eighth b) (eighth c)).2.1) (hlsOf (eighth a) (eighth b) (eighth c)).2.2
def near (p : UInt64) : UInt64 := Float64.add (Float64.mul p (Float64.ofInt 8)) 4602678819172646912
def okOpp (a b c : Int) : Bool :=
  rgbOk (eighth a) (eighth b) (eighth c) && Float64.isFinite (near (turned a b c).1) && Float64.isFinite (near (turned a b c).2.1) && Float64.isFinite (near (turned a b c).2.2)
  && (toInt Float64.truncOf (near (turned a b c).1) == 8 - a) && (toInt Float64.truncOf (near (turned a b c).2.1) == 8 - b) && (toInt Float64.truncOf (near (turned a b c).2.2) == 8 - c)

/-- the same, its float worked out first -/
def fU {α : Type} (x : UInt64) (k : UInt64 → α) : α := match x.toNat with | 0 => k 0 | n + 1 => k (UInt64.ofNat (n + 1))
theorem fU_eq {α : Type} (x : UInt64) (k : UInt64 → α) : fU x k = k x := by
  unfold fU
  split
  · rename_i h; rw [← UInt64.ofNat_toNat (x := x), h]; rfl
  · rename_i n h; rw [show n + 1 = x.toNat from h.symm, UInt64.ofNat_toNat]
/-- part p, turned over, is k -/
def endOk (p : UInt64) (k : Int) : Bool := fU (Float64.mul p 4620693217682128896) fun q => fU (Float64.add q 4602678819172646912) fun q => Float64.isFinite q && (toInt Float64.truncOf q == k)
def vS (m1 m2 d hue : UInt64) (a : Int) : Bool :=
  fU (Float64.divmod hue 4607182418800017408).snd fun h =>
  if fLt h 4595172819793696085 = true then fU (Float64.mul d h) fun x => fU (Float64.mul x 4618441417868443648) fun x => fU (Float64.add m1 x) fun x => endOk x a
  else if fLt h 4602678819172646912 = true then endOk m2 a
  else if fLt h 4604180019048437077 = true then fU (Float64.sub 4604180019048437077 h) fun x => fU (Float64.mul d x) fun x => fU (Float64.mul x 4618441417868443648) fun x => fU (Float64.add m1 x) fun x => endOk x a
  else endOk m1 a
def rgbS' (h l s : UInt64) (a b c : Int) : Bool :=
  if fEq s 0 = true then endOk l a && endOk l b && endOk l c else
  fU (if fLe l 4602678819172646912 = true then Float64.mul l (Float64.add 4607182418800017408 s) else Float64.sub (Float64.add l s) (Float64.mul l s)) fun m2 =>
  fU (Float64.sub (Float64.mul 4611686018427387904 l) m2) fun m1 =>
  fU (Float64.sub m2 m1) fun d =>
  fU (Float64.add h 4599676419421066581) fun h1 => fU (Float64.sub h 4599676419421066581) fun h3 =>
  vS m1 m2 d h1 a && vS m1 m2 d h b && vS m1 m2 d h3 c
def oppS (a b c : Int) : Bool :=
  fU (eighth a) fun r => fU (eighth b) fun g => fU (eighth c) fun bb =>
  fU (max3 r g bb) fun mx => fU (min3 r g bb) fun mn =>
  fU (Float64.add mx mn) fun su => fU (Float64.sub mx mn) fun ra => fU (Float64.div su 4611686018427387904) fun l =>
  fU (Float64.sub 4607182418800017408 l) fun l' =>
  if fEq mn mx = true then rgbS' (Float64.add 0 4602678819172646912) l' 0 (8 - a) (8 - b) (8 - c)
  else
  fU (Float64.sub (Float64.sub 4611686018427387904 mx) mn) fun sv =>
  (!Float64.isZero su && !Float64.isZero sv && !Float64.isZero ra) &&
  fU (if fLe l 4602678819172646912 = true then Float64.div ra su else Float64.div ra sv) fun s =>
  fU (Float64.div (Float64.sub mx r) ra) fun rc => fU (Float64.div (Float64.sub mx g) ra) fun gc => fU (Float64.div (Float64.sub mx bb) ra) fun bc =>
  fU (if fEq r mx = true then Float64.sub bc gc else if fEq g mx = true then Float64.sub (Float64.add 4611686018427387904 rc) bc else Float64.sub (Float64.add 4616189618054758400 gc) rc) fun h0 =>
  fU (Float64.div h0 4618441417868443648) fun h1 =>
  fU (Float64.divmod h1 4607182418800017408).snd fun h2 =>
  fU (Float64.add h2 4602678819172646912) fun h3 =>
  rgbS' h3 l' s (8 - a) (8 - b) (8 - c)

theorem endOk_of {p : UInt64} {k : Int} (h : endOk p k = true) : Float64.isFinite (near p) = true ∧ toInt Float64.truncOf (near p) = k := by
  simp only [endOk, fU_eq, Bool.and_eq_true, beq_iff_eq] at h
  have e : Float64.ofInt 8 = 4620693217682128896 := by decide +kernel
  simp only [near, e]
  exact h
theorem vS_of {m1 m2 hue : UInt64} {a : Int} (h : vS m1 m2 (Float64.sub m2 m1) hue a = true) : endOk (vF m1 m2 hue) a = true := by
  simp only [vS, fU_eq] at h
  unfold vF
  split
  · rename_i c; rw [if_pos c] at h; exact h
  · rename_i c; rw [if_neg c] at h
    split
    · rename_i c; rw [if_pos c] at h; exact h
    · rename_i c; rw [if_neg c] at h
      split
      · rename_i c; rw [if_pos c] at h; exact h
      · rename_i c; rw [if_neg c] at h; exact h
theorem rgbS'_of {h l s : UInt64} {a b c : Int} (x : rgbS' h l s a b c = true) : endOk (rgbOf h l s).1 a = true ∧ endOk (rgbOf h l s).2.1 b = true ∧ endOk (rgbOf h l s).2.2 c = true := by
  simp only [rgbS', fU_eq] at x
  unfold rgbOf
  split
  · rename_i q; rw [if_pos q] at x
    simp only [Bool.and_eq_true] at x
    exact ⟨x.1.1, x.1.2, x.2⟩
  · rename_i q; rw [if_neg q] at x
    simp only [Bool.and_eq_true] at x
    exact ⟨vS_of x.1.1, vS_of x.1.2, vS_of x.2⟩
/-- what the walk asks of a colour -/
structure OppOk (a b c : Int) : Prop where
  ok : rgbOk (eighth a) (eighth b) (eighth c) = true
  f1 : Float64.isFinite (near (turned a b c).1) = true
  f2 : Float64.isFinite (near (turned a b c).2.1) = true
  f3 : Float64.isFinite (near (turned a b c).2.2) = true
  v1 : toInt Float64.truncOf (near (turned a b c).1) = 8 - a
  v2 : toInt Float64.truncOf (near (turned a b c).2.1) = 8 - b
  v3 : toInt Float64.truncOf (near (turned a b c).2.2) = 8 - c
theorem oppS_of {a b c : Int} (h : oppS a b c = true) : OppOk a b c := by
  simp only [oppS, fU_eq] at h
  by_cases q : isGrey (eighth a) (eighth b) (eighth c) = true
  · have q' : fEq (min3 (eighth a) (eighth b) (eighth c)) (max3 (eighth a) (eighth b) (eighth c)) = true := q
    rw [if_pos q'] at h
    have e : hlsOf (eighth a) (eighth b) (eighth c) = (0, rgbL (eighth a) (eighth b) (eighth c), 0) := by unfold hlsOf; rw [if_pos q]
    have et : turned a b c = rgbOf (Float64.add 0 4602678819172646912) (Float64.sub 4607182418800017408 (rgbL (eighth a) (eighth b) (eighth c))) 0 := by unfold turned; rw [e]
    obtain ⟨h1, h2, h3⟩ := rgbS'_of h
    have k : ∀ x, x = turned a b c → endOk x.1 (8 - a) = true → endOk x.2.1 (8 - b) = true → endOk x.2.2 (8 - c) = true → OppOk a b c := by
      rintro x rfl g1 g2 g3
      exact ⟨by unfold rgbOk; rw [q]; rfl, (endOk_of g1).1, (endOk_of g2).1, (endOk_of g3).1, (endOk_of g1).2, (endOk_of g2).2, (endOk_of g3).2⟩
    exact k _ et.symm h1 h2 h3
  · have q' : ¬ fEq (min3 (eighth a) (eighth b) (eighth c)) (max3 (eighth a) (eighth b) (eighth c)) = true := q
    rw [if_neg q'] at h
    simp only [Bool.and_eq_true] at h
    obtain ⟨⟨⟨n1, n2⟩, n3⟩, h⟩ := h
    have e : hlsOf (eighth a) (eighth b) (eighth c) = (rgbH (eighth a) (eighth b) (eighth c), rgbL (eighth a) (eighth b) (eighth c), rgbS (eighth a) (eighth b) (eighth c)) := by unfold hlsOf; rw [if_neg q]
    have et : turned a b c = rgbOf (Float64.add (rgbH (eighth a) (eighth b) (eighth c)) 4602678819172646912) (Float64.sub 4607182418800017408 (rgbL (eighth a) (eighth b) (eighth c))) (rgbS (eighth a) (eighth b) (eighth c)) := by unfold turned; rw [e]
    obtain ⟨h1, h2, h3⟩ := rgbS'_of h
    have k : ∀ x, x = turned a b c → endOk x.1 (8 - a) = true → endOk x.2.1 (8 - b) = true → endOk x.2.2 (8 - c) = true → OppOk a b c := by
      rintro x rfl g1 g2 g3
      exact ⟨by unfold rgbOk; rw [n1, n2, n3]; simp, (endOk_of g1).1, (endOk_of g2).1, (endOk_of g3).1, (endOk_of g1).2, (endOk_of g2).2, (endOk_of g3).2⟩
    exact k _ et.symm h1 h2 h3
def okRow (a b : Int) : Bool := [0, 1, 2, 3, 4, 5, 6, 7, 8].all fun c => oppS a b c
def okPlane (a : Int) : Bool := [0, 1, 2, 3, 4, 5, 6, 7, 8].all fun b => okRow a b
set_option maxHeartbeats 8000000
theorem okP0 : okPlane 0 = true := by decide +kernel
theorem okP1 : okPlane 1 = true := by decide +kernel
theorem okP2 : okPlane 2 = true := by decide +kernel
theorem okP3 : okPlane 3 = true := by decide +kernel
theorem okP4 : okPlane 4 = true := by decide +kernel
theorem okP5 : okPlane 5 = true := by decide +kernel
theorem okP6 : okPlane 6 = true := by decide +kernel
theorem okP7 : okPlane 7 = true := by decide +kernel
theorem okP8 : okPlane 8 = true := by decide +kernel

theorem opp_ok {a b c : Int} (ha : 0 ≤ a ∧ a ≤ 8) (hb : 0 ≤ b ∧ b ≤ 8) (hc : 0 ≤ c ∧ c ≤ 8) : OppOk a b c := by
  have row : ∀ {x y : Int}, okRow x y = true → oppS x y c = true := fun {x y} h => by
    have h' := List.all_eq_true.mp h c
    refine h' ?_
    have : c = 0 ∨ c = 1 ∨ c = 2 ∨ c = 3 ∨ c = 4 ∨ c = 5 ∨ c = 6 ∨ c = 7 ∨ c = 8 := by omega
    simpa using this
  have plane : ∀ {x : Int}, okPlane x = true → okRow x b = true := fun {x} h => by
    have h' := List.all_eq_true.mp h b
    refine h' ?_
    have : b = 0 ∨ b = 1 ∨ b = 2 ∨ b = 3 ∨ b = 4 ∨ b = 5 ∨ b = 6 ∨ b = 7 ∨ b = 8 := by omega
    simpa using this
  have h9 : a = 0 ∨ a = 1 ∨ a = 2 ∨ a = 3 ∨ a = 4 ∨ a = 5 ∨ a = 6 ∨ a = 7 ∨ a = 8 := by omega
  refine oppS_of (row (plane ?_))
  rcases h9 with rfl | rfl | rfl | rfl | rfl | rfl | rfl | rfl | rfl
  · exact okP0
  · exact okP1
  · exact okP2
  · exact okP3
  · exact okP4
  · exact okP5
  · exact okP6
  · exact okP7
  · exact okP8
end Ty

end TyPPart
section TyCPart
open PySem PySem.W PyProof.Rows PySem.Calls PySem.Spec PyProof.Rows.LCg
set_option maxRecDepth 100000
namespace Ty
theorem rst_TyC : True := by
  w_top off
  k_with_none
  trivial
section
variable {prog : Program} {w : World} {A : Around} {E : Value → Shared → Prop} {s : Shared} {h₀ : Heap} {L : Addr} {m : Str → Option Value} {env : Env}
/-- the source of a block is a tuple of the ledger -/
def TupSrc (prog : Program) (w : World) (A : Around) (h₀ : Heap) (L : Addr) (m : Str → Option Value) (env : Env) (elt : PySem.Expr) (x : Str) (scope : Scope) (cl : List (Str × Addr)) (Fin : Shared → List Value → List (Addr × Obj) → Prop) (xv : Value) (s₁ : Shared) : Prop :=
  ∃ ax its news, xv = .ref ax ∧ A.handled = none ∧ Fr h₀ L s₁.heap m ∧ News h₀ L s₁.heap news ∧ (ax, ({ cls := .type "tuple", data := .seq its } : Obj)) ∈ news ∧ its.size ≤ sizeLine ∧
    ∀ g : Heap, CompRest prog w A h₀ L m env elt x scope cl { s₁ with heap := g } (fun nw => (ax, ({ cls := .type "tuple", data := .seq its } : Obj)) ∈ nw) (fun i v => its[i]? = some v) (Fin { s₁ with heap := g }) its.size 0 [] news
theorem ListComp_tuple {elt iter : PySem.Expr} {x : Str} {px : Pos} {scope : Scope} {cl : List (Str × Addr)} {pos : Pos} {Q : Value → Shared → Prop} (_F : Fr h₀ L s.heap m)
    (hclos : closureFor scope env = pure cl) (hcell : ∀ y ∈ scope.names, y.2 ≠ .cell) (hkind : scope.kind = .function)
    (hnames : ∀ y ∈ scope.names, y.2 = .local → scope.names.lookup y.1 = some .local) (hx : scope.names.lookup x = some .local)
    (h : wpAny (model prog w) A (eval iter env) (TupSrc prog w A h₀ L m env elt x scope cl (fun s₂ => FinE h₀ L m s₂ Q)) E s)
    (hs : ∀ x, foldedSetIterable iter env x = pure x := by intro _; rfl) :
    wpAny (model prog w) A (eval (.ListComp elt [⟨.Name x px, iter, [], 0⟩] scope pos) env) Q E s := by
  rw [eval_ListComp]
  refine wpAny_comprehension_free (use := none) rfl hs hclos hkind hnames (wpAny_mono h (fun xv s₁ h₁ => ?_) fun _ _ e => e)
  obtain ⟨ax, its, news, rfl, hh, F, N, hm, hsz, R⟩ := h₁
  have hT : ∀ {g : Heap}, News h₀ L g news → g.IsTuple ax its := fun n => ⟨_, (n _ hm).1, rfl, 0, rfl⟩
  have hlt : ax < s₁.heap.objs.size := Heap.lt_size (N _ hm).1
  refine wpAny_pyIter_tuple (hT N) ?_
  have up : ∀ b o, s₁.heap.get? b = some o → (s₁.heap.push { cls := .type "tuple_iterator", data := .fields #[.ref ax, .int 0 0] }).get? b = some o := fun b o e => Heap.get?_push_of_some _ e
  refine block_U (Walks.tuple hh s₁.heap.objs.size ax (Nat.ne_of_lt hlt) its) hsz (fun i h st => by obtain ⟨o, e, _⟩ := st.1; exact ⟨o, e⟩)
    (fun i g g' o nw st e e' _ N' S' => ⟨by obtain ⟨o', q, r⟩ := st.1; rw [e] at q; cases q; exact ⟨o, e', r⟩, ⟨_, (N' _ S').1, rfl, 0, rfl⟩⟩)
    hcell hkind hx ⟨⟨_, Heap.get?_push_size _ rfl, rfl, rfl⟩, hT (N.grown up)⟩ (fun b hb => ?_) (F.keeps up) (N.grown up) (Nat.ne_of_lt F.ns.lt) (next_is_new F) (fun p hp => Nat.ne_of_lt (Heap.lt_size (N p hp).1)) hm (R _) ?_
  · show b < (s₁.heap.push _).objs.size
    rw [Heap.size_push]
    rcases List.mem_cons.mp hb with rfl | hb
    · exact Nat.lt_succ_self _
    · rw [List.mem_singleton.mp hb]; exact Nat.lt_succ_of_lt hlt
  · intro D C g tk m' ys news' F' N' o1 hn hC₀ _ hCL _ hCD offC fin
    refine ⟨m', hn, fun g2 hs2 => fin D g2 tk (F'.change hs2 hCL hC₀) (fun p hp => ?_) o1⟩
    refine ⟨hs2.extBut _ _ ?_ (N' p hp).1, (N' p hp).2⟩
    rcases List.mem_cons.mp hp with rfl | hp
    · exact Ne.symm hCD
    · exact offC p hp
end
end Ty

end TyCPart
section TyOPart
open PySem PySem.W PyProof.Rows PySem.Calls PySem.Spec PySem.Flt PyProof.Rows.LCg
set_option maxRecDepth 100000
namespace Ty
theorem rst_TyO : True := by
  w_top off
  k_with_none
  trivial
theorem div8 {prog : Program} {w : World} {A : Around} {E : Value → Shared → Prop} {s : Shared} {a : Int} {t u : Tok} {Q : Value → Shared → Prop} (hA : A.handled = none) (ha : 0 ≤ a ∧ a ≤ 8)
    (h : Q (.float (eighth a) s.toks) { s with toks := s.toks + 1 }) : wpAny (model prog w) A (binaryOp .Div (.int a t) (.int 8 u)) Q E s := by
  refine div_ii_fits hA ?_ (fun h => absurd h (by decide)) (fun _ _ => ?_)
  · have h1 : a.natAbs ≤ 8 := by omega
    exact Nat.lt_of_le_of_lt h1 (by decide)
  · have e : Float64.ofFrac (decide (a < 0) != decide ((8 : Int) < 0)) a.natAbs (8 : Int).natAbs = eighth a := by
      have h1 : ¬ a < 0 := by omega
      simp [eighth, h1]
    rw [e]; exact h
theorem list_item {prog : Program} {w : World} {A : Around} {E : Value → Shared → Prop} {s : Shared} {value slice : PySem.Expr} {l : Addr} {vs : List Value} {k : Int} {u : Tok} {v : Value} {Q : Value → Shared → Prop} {h₀ : Heap} {L : Addr} {m : Str → Option Value}
    (F : Fr h₀ L s.heap m) (hl : h₀.IsList l vs.toArray) (h0 : 0 ≤ k) (hhi : k < 2 ^ 63) (hx : vs[k.toNat]? = some v) (h : Q v s)
    (hs : subscripted slice false (.ref l) (.int k u) = operate [.ref l, .int k u] (getItem (.ref l) (.int k u)) := by with_unfolding_all rfl) :
    wpAny (model prog w) A (subscriptTail value slice (.ref l) (.int k u)) Q E s :=
  have hl' : s.heap.IsList l vs.toArray := stays_list F.keep hl
  tail_any hl'.typeIs slot_list_getitem.lookup (wpAny_getItem_list hl' h0 hhi (by simpa using hx) h) hs
/-- a new object that a call handed back, onto the ledger -/
theorem news_add {h₀ h h' : Heap} {L a : Addr} {m : Str → Option Value} {o : Obj} {news : List (Addr × Obj)} (F : Fr h₀ L h m) (N : News h₀ L h' news) (hn : h.get? a = none) (hg : h'.get? a = some o) : News h₀ L h' ((a, o) :: news) := by
  intro p hp
  rcases List.mem_cons.mp hp with rfl | hp
  · refine ⟨hg, fun e => ?_, ?_⟩
    · obtain ⟨oL, _, _, hL, _⟩ := F.ns
      dsimp only at e
      rw [e, hL] at hn; cases hn
    · cases q : h₀.get? a with
      | none => rfl
      | some o' => rw [F.keep _ _ q] at hn; cases hn
  · exact N p hp
theorem ln_TyO_1 : True := by
  k_with_none
  k_with "execs cons" => (k_here; (with_reducible refine wpAny_execs_cons ?_); k_unmd; k_fold)
  k_with "room" => (first | omega | (simp only [recursionLimit, cLine] at *; omega))
  k_with "subscriptTail Name Constant ref int" => (k_here; refine list_item (by k_asm) (by with_reducible assumption) (by decide) (by decide) rfl ?_)
  k_with "binaryOp Div int int" => (refine div8 rfl (by with_reducible assumption) ?_; (try dsimp only))
  k_with "call ref" => (k_here; (rename Fr _ _ _ _ => kF99k); k_dflt (first | refine Meets.use (rgb_meets (by with_reducible assumption)) (by k_asm) kF99k (by k_asm) (by k_asm) (by k_asm) (by k_asm) rfl (by k_extra "room") (by k_extra "room") (by trivial) ?_ | refine Meets.use hls_meets (by k_asm) kF99k (by k_asm) (by k_asm) (by k_asm) (by k_asm) rfl (by k_extra "room") (by k_extra "room") (by trivial) ?_); intro r9k h9k tk9k F9k N9k _ hp9k; obtain ⟨D9k, u19k, u29k, u39k, he9k, hn9k, hg9k⟩ := hp9k; subst he9k; (replace N9k := news_add kF99k N9k hn9k hg9k); (try dsimp only [tupleOf] at N9k); clear kF99k hn9k hg9k; (try dsimp only); (try k_fold))
  trivial
theorem int_near {prog : Program} {w : World} {A : Around} {E : Value → Shared → Prop} {s : Shared} {x : UInt64} {n : Int} {t : Tok} {Q : Value → Shared → Prop} (hA : A.handled = none) (hf : Float64.isFinite x = true) (hn : toInt Float64.truncOf x = n)
    (h : Q (.int n s.toks) { s with toks := s.toks + 1 }) : wpAny (model prog w) A (call (.type "int") [.float x t]) Q E s := by
  subst hn
  refine call_int_float3 hA (fun hx => ?_) (fun hx => ?_) (fun _ => h)
  · unfold Float64.isNaN at hx; unfold Float64.isFinite at hf; split at hx <;> simp_all
  · unfold Float64.isInf at hx; unfold Float64.isFinite at hf; split at hx <;> simp_all
theorem ints3_ex {h h' : Heap} {D : Addr} {a b c x y z : Int} {t1 t2 t3 : Tok} {n : Nat} (hn : h.get? D = none) (hg : h'.get? D = some { cls := .type "list", data := .seq #[.int a t1, .int b t2, .int c t3] n }) (ha : a = x) (hb : b = y) (hc : c = z) :
    ∃ D' u1 u2 u3 n', Value.ref D = .ref D' ∧ h.get? D' = none ∧ h'.get? D' = some (listOf [Value.int x u1, .int y u2, .int z u3].toArray n') := by
  subst ha hb hc
  exact ⟨D, t1, t2, t3, n, rfl, hn, hg⟩
theorem ln_TyO_2 : True := by
  k_with "eval ListComp" => (k_here; k_dflt (refine ListComp_tuple (by k_asm) (by rfl) (by decide) (by rfl) (by decide) (by rfl) ?_))
  k_with "TupSrc" => (k_here; k_dflt (refine ⟨_, _, _, rfl, rfl, (by k_asm), (by k_asm), (by k_mem), (by exact Nat.le_of_ble_eq_true rfl), ?_⟩; intro g9k; lcg_lit))
  trivial
local macro_rules | `(tactic| lcg_src) => `(tactic| k_mem)
theorem ln_TyO_3 : True := by
  k_with "call type:int" => ((with_reducible show wpAny _ _ (call _ [Value.float _ _]) _ _ _); (rename OppOk _ _ _ => O99k); k_dflt (first | refine int_near rfl O99k.f1 O99k.v1 ?_ | refine int_near rfl O99k.f2 O99k.v2 ?_ | refine int_near rfl O99k.f3 O99k.v3 ?_); (try dsimp only))
  trivial
set_option maxHeartbeats 8000000 in
theorem opp_meets {prog : Program} {w : World} {l : Addr} {a b c : Int} {t1 t2 t3 : Tok} (ha : 0 ≤ a ∧ a ≤ 8) (hb : 0 ≤ b ∧ b ≤ 8) (hc : 0 ≤ c ∧ c ≤ 8) :
    Meets prog w 146 4 [.ref l] (fun h => h.IsList l [Value.int a t1, .int b t2, .int c t3].toArray) (fun h v h' => ∃ D u1 u2 u3 n, v = .ref D ∧ h.get? D = none ∧ h'.get? D = some (listOf [Value.int (8 - a) u1, .int (8 - b) u2, .int (8 - c) u3].toArray n)) := by
  intro mean mg mb dp un gd cn cs L ad ccd cl outer A₀ base h₀ m s Q E B F X T V hk hd hu hp hret
  have V1 := V.keeps F.keep
  have hroom : dp < recursionLimit := by omega
  have O := opp_ok ha hb hc
  have hok := O.ok
  refine enter (w := w) (binds := [(Str.ofString "colour", .ref l)]) B F X T hk (by k_is) (by k_is) hroom (BindsTo.of_eq rfl) (locs rfl) ?_ (by decide)
  intro L' h₁ F' N' B' X' T'
  clear X T B V
  k_fold
  refine fold3 ?_
  intro Mv Av ev
  k_steps
  all_goals (
    (try dsimp only)
    (try k_unfold)
    (try dsimp only)
    (rename News _ _ _ _ => NN)
    have hN := NN _ (.head _)
    refine ret_of hret (by assumption) (ints3_ex hN.2.2 hN.1 ?_ ?_ ?_) <;> rfl)
end Ty

end TyOPart
section TyMPart
namespace Ty
theorem rst_TyM : True := by
  w_top off
  k_with_none
  trivial
/-! the stack machine that the row drives, the stack's top first -/
section
variable {α β : Type}
structure Mach (α : Type) where
  leaf : Int → α
  neg : α → α
  bin : Int → α → α → α
def Mach.step (M : Mach α) (x : Int) (st : List α) : Option (List α) :=
  if x > 255 then some (M.leaf x :: st) else if x = 31 then (match st with | a :: t => some (M.neg a :: t) | [] => none) else (match st with | u :: l :: t => some (M.bin x l u :: t) | _ => none)
def Mach.run (M : Mach α) : List Int → List α → Option (List α)
  | [], st => some st
  | x :: r, st => (M.step x st).bind (M.run r)
theorem Mach.run_append (M : Mach α) : ∀ (a b : List Int) (st : List α), M.run (a ++ b) st = (M.run a st).bind (M.run b)
  | [], _, _ => rfl
  | x :: a, b, st => by
    show (M.step x st).bind (M.run (a ++ b)) = ((M.step x st).bind (M.run a)).bind (M.run b)
    cases M.step x st with
    | none => rfl
    | some t => exact M.run_append a b t
theorem Mach.run_one (M : Mach α) (x : Int) (st : List α) : M.run [x] st = M.step x st := by
  show (M.step x st).bind (M.run []) = _
  cases M.step x st <;> rfl
theorem Mach.step_leaf (M : Mach α) {x : Int} (h : x > 255) (st : List α) : M.step x st = some (M.leaf x :: st) := by unfold Mach.step; rw [if_pos h]
theorem Mach.step_neg (M : Mach α) (a : α) (t : List α) : M.step 31 (a :: t) = some (M.neg a :: t) := by unfold Mach.step; rw [if_neg (by decide), if_pos rfl]
theorem Mach.step_bin (M : Mach α) {x : Int} (h : ¬ x > 255) (h2 : x ≠ 31) (u l : α) (t : List α) : M.step x (u :: l :: t) = some (M.bin x l u :: t) := by unfold Mach.step; rw [if_neg h, if_neg h2]

def unitM : Mach Unit := ⟨fun _ => (), fun _ => (), fun _ _ _ => ()⟩
theorem unit_step (M : Mach α) (x : Int) (st : List α) : unitM.step x (st.map fun _ => ()) = (M.step x st).map fun t => t.map fun _ => () := by
  unfold Mach.step
  split
  · rfl
  · split
    · cases st <;> rfl
    · match st with
      | [] => rfl
      | [_] => rfl
      | _ :: _ :: _ => rfl
theorem unit_run (M : Mach α) : ∀ (r : List Int) (st : List α), unitM.run r (st.map fun _ => ()) = (M.run r st).map fun t => t.map fun _ => ()
  | [], st => rfl
  | x :: r, st => by
    show (unitM.step x _).bind (unitM.run r) = ((M.step x st).bind (M.run r)).map _
    rw [unit_step M]
    cases M.step x st with
    | none => rfl
    | some t => exact unit_run M r t
/-- the row is a formula -/
def Formed (row : List Int) : Prop := unitM.run row [] = some [()]
theorem Formed.run {row : List Int} (h : Formed row) (M : Mach α) : ∃ a, M.run row [] = some [a] := by
  have h2 := unit_run M row []
  have h3 : unitM.run row [] = (M.run row []).map fun t => t.map fun _ => () := h2
  rw [h] at h3
  cases e : M.run row [] with
  | none => rw [e] at h3; cases h3
  | some t =>
    rw [e] at h3
    match t with
    | [] => cases h3
    | [a] => exact ⟨a, rfl⟩
    | _ :: _ :: _ => cases h3
/-- part of the way: what has been run, and the next step -/
theorem Formed.at {row : List Int} (h : Formed row) (M : Mach α) {i : Nat} {n : Int} {st : List α} (hn : row[i]? = some n) (hr : M.run (row.take i) [] = some st) :
    ∃ st', M.step n st = some st' ∧ M.run (row.take (i + 1)) [] = some st' := by
  obtain ⟨a, ha⟩ := h.run M
  have hs : row.take (i + 1) = row.take i ++ [n] := by rw [List.take_add_one, hn]; rfl
  have e : row = (row.take i ++ [n]) ++ row.drop (i + 1) := by rw [← hs, List.take_append_drop]
  have e1 : M.run (row.take (i + 1)) [] = M.step n st := by rw [hs, M.run_append, hr, Option.bind_some, M.run_one]
  rw [e, M.run_append, ← hs, e1] at ha
  cases q : M.step n st with
  | none => rw [q] at ha; cases ha
  | some st' => exact ⟨st', rfl, by rw [e1, q]⟩
theorem step_cases (M : Mach α) {x : Int} {st st' : List α} (h : M.step x st = some st') :
    (x > 255 ∧ st' = M.leaf x :: st) ∨ (x = 31 ∧ ∃ a t, st = a :: t ∧ st' = M.neg a :: t) ∨ (¬ x > 255 ∧ x ≠ 31 ∧ ∃ u l t, st = u :: l :: t ∧ st' = M.bin x l u :: t) := by
  unfold Mach.step at h
  split at h
  · rename_i c; exact .inl ⟨c, (Option.some.inj h).symm⟩
  · rename_i c
    split at h
    · rename_i c2
      match st, h with
      | a :: t, h => exact .inr (.inl ⟨c2, a, t, rfl, (Option.some.inj h).symm⟩)
    · rename_i c2
      match st, h with
      | u :: l :: t, h => exact .inr (.inr ⟨c, c2, u, l, t, rfl, (Option.some.inj h).symm⟩)

def IsSym (x : Int) : Prop := x = 256 ∨ x = 257 ∨ x = 258 ∨ x = 19 ∨ x = 20 ∨ x = 21 ∨ x = 31
inductive Two (R : α → β → Prop) : List α → List β → Prop
  | nil : Two R [] []
  | cons {a : α} {b : β} {s : List α} {t : List β} : R a b → Two R s t → Two R (a :: s) (b :: t)
/-- related machines run alike -/
theorem run_rel (M : Mach α) (N : Mach β) (R : α → β → Prop) (hl : ∀ x, x = 256 ∨ x = 257 ∨ x = 258 → R (M.leaf x) (N.leaf x)) (hn : ∀ a b, R a b → R (M.neg a) (N.neg b))
    (hb : ∀ x a b c d, x = 19 ∨ x = 20 ∨ x = 21 → R a b → R c d → R (M.bin x a c) (N.bin x b d)) :
    ∀ (row : List Int), (∀ x ∈ row, IsSym x) → ∀ (s : List α) (t : List β), Two R s t → ∀ s', M.run row s = some s' → ∃ t', N.run row t = some t' ∧ Two R s' t'
  | [], _, s, t, h, s', e => ⟨t, rfl, (Option.some.inj e) ▸ h⟩
  | x :: row, hs, s, t, h, s', e => by
    have hx := hs x (.head _)
    have go : ∀ s1 t1, M.step x s = some s1 → N.step x t = some t1 → Two R s1 t1 → ∃ t', N.run (x :: row) t = some t' ∧ Two R s' t' := by
      intro s1 t1 e1 e2 h1
      have e3 : (M.step x s).bind (M.run row) = some s' := e
      rw [e1] at e3
      obtain ⟨t', e4, h4⟩ := run_rel M N R hl hn hb row (fun y hy => hs y (.tail _ hy)) s1 t1 h1 s' e3
      exact ⟨t', by show (N.step x t).bind (N.run row) = some t'; rw [e2]; exact e4, h4⟩
    have e3 : (M.step x s).bind (M.run row) = some s' := e
    cases q : M.step x s with
    | none => rw [q] at e3; cases e3
    | some s1 =>
      rcases step_cases M q with ⟨c, rfl⟩ | ⟨c, a, r, rfl, rfl⟩ | ⟨c, c2, u, l, r, rfl, rfl⟩
      · exact go _ _ q (N.step_leaf c t) (.cons (hl x (by unfold IsSym at hx; omega)) h)
      · subst c
        cases h with
        | cons h1 h2 => exact go _ _ q (N.step_neg _ _) (.cons (hn _ _ h1) h2)
      · cases h with
        | cons h1 h2 => cases h2 with
          | cons h2 h3 =>
            exact go _ _ q (N.step_bin c c2 _ _ _) (.cons (hb x _ _ _ _ (by unfold IsSym at hx; omega) h2 h1) h3)
end
/-! the two readings of a row -/
def med (a b : Int) : Int := max (min a b) (min (max a b) 4)
/-- one part of a colour -/
def partM (p0 p1 p2 : Int) : Mach Int := ⟨fun x => if x = 256 then p0 else if x = 257 then p1 else p2, fun a => 8 - a, fun x l u => if x = 19 then med l u else if x = 20 then min l u else max l u⟩
def greyOf (level a : Int) : Int := if a ≥ level then 1 else if 8 - a ≥ level then -1 else 0
/-- a grey -/
def greyM (g0 g1 g2 : Int) : Mach Int := ⟨fun x => if x = 256 then g0 else if x = 257 then g1 else g2, fun a => -a, fun x l u => if x = 19 then (if l = u then l else 0) else if x = 20 then min l u else max l u⟩
def nine9 : List Int := [0, 1, 2, 3, 4, 5, 6, 7, 8]
theorem mem9 {a : Int} (h : 0 ≤ a ∧ a ≤ 8) : a ∈ nine9 := by
  have h9 : a = 0 ∨ a = 1 ∨ a = 2 ∨ a = 3 ∨ a = 4 ∨ a = 5 ∨ a = 6 ∨ a = 7 ∨ a = 8 := by omega
  simpa [nine9] using h9
def okT : Bool := nine9.all fun a => 4 + greyOf 5 a + greyOf 6 a + greyOf 7 a + greyOf 8 a == a
theorem okT_true : okT = true := by decide +kernel
theorem told_of_greys {a : Int} (h : 0 ≤ a ∧ a ≤ 8) : 4 + greyOf 5 a + greyOf 6 a + greyOf 7 a + greyOf 8 a = a := by
  have := List.all_eq_true.mp okT_true a (mem9 h)
  simpa using this
def okG (v a c : Int) : Bool := (-(greyOf v a) == greyOf v (8 - a)) && ((if greyOf v a = greyOf v c then greyOf v a else 0) == greyOf v (med a c)) && (min (greyOf v a) (greyOf v c) == greyOf v (min a c)) && (max (greyOf v a) (greyOf v c) == greyOf v (max a c))
def okGs : Bool := [5, 6, 7, 8].all fun v => nine9.all fun a => nine9.all fun c => okG v a c
theorem okGs_true : okGs = true := by decide +kernel
theorem okG_of {v a c : Int} (hv : 5 ≤ v ∧ v ≤ 8) (ha : 0 ≤ a ∧ a ≤ 8) (hc : 0 ≤ c ∧ c ≤ 8) :
    -(greyOf v a) = greyOf v (8 - a) ∧ (if greyOf v a = greyOf v c then greyOf v a else 0) = greyOf v (med a c) ∧ min (greyOf v a) (greyOf v c) = greyOf v (min a c) ∧ max (greyOf v a) (greyOf v c) = greyOf v (max a c) := by
  have h4 : v ∈ ([5, 6, 7, 8] : List Int) := by
    have : v = 5 ∨ v = 6 ∨ v = 7 ∨ v = 8 := by omega
    simpa using this
  have h := List.all_eq_true.mp (List.all_eq_true.mp (List.all_eq_true.mp okGs_true v h4) a (mem9 ha)) c (mem9 hc)
  simp only [okG, Bool.and_eq_true, beq_iff_eq] at h
  exact ⟨h.1.1.1, h.1.1.2, h.1.2, h.2⟩
theorem grey_rel {level p0 p1 p2 : Int} (hv : 5 ≤ level ∧ level ≤ 8) (h0 : 0 ≤ p0 ∧ p0 ≤ 8) (h1 : 0 ≤ p1 ∧ p1 ≤ 8) (h2 : 0 ≤ p2 ∧ p2 ≤ 8) {row : List Int} (hs : ∀ x ∈ row, IsSym x) {a g : Int}
    (ha : (partM p0 p1 p2).run row [] = some [a]) (hg : (greyM (greyOf level p0) (greyOf level p1) (greyOf level p2)).run row [] = some [g]) : (0 ≤ a ∧ a ≤ 8) ∧ g = greyOf level a := by
  obtain ⟨t, e, h⟩ := run_rel (partM p0 p1 p2) (greyM (greyOf level p0) (greyOf level p1) (greyOf level p2)) (fun a g => (0 ≤ a ∧ a ≤ 8) ∧ g = greyOf level a)
    (by rintro x (rfl | rfl | rfl)
        · exact ⟨h0, rfl⟩
        · exact ⟨h1, rfl⟩
        · exact ⟨h2, rfl⟩)
    (by rintro a g ⟨ha, rfl⟩
        exact ⟨by show 0 ≤ 8 - a ∧ 8 - a ≤ 8; omega, (okG_of hv ha ha).1⟩)
    (by rintro x a g c d hx ⟨ha, rfl⟩ ⟨hc, rfl⟩
        have o := okG_of hv ha hc
        rcases hx with rfl | rfl | rfl
        · exact ⟨by show 0 ≤ med a c ∧ med a c ≤ 8; unfold med; omega, o.2.1⟩
        · exact ⟨by show 0 ≤ min a c ∧ min a c ≤ 8; omega, o.2.2.1⟩
        · exact ⟨by show 0 ≤ max a c ∧ max a c ≤ 8; omega, o.2.2.2⟩)
    row hs [] [] .nil _ ha
  rw [hg] at e
  cases e
  cases h with
  | cons h _ => exact h
end Ty

end TyMPart
section TyLPart
open PySem PySem.W PyProof.Rows PySem.Calls PySem.Spec
set_option maxRecDepth 100000
namespace Ty
theorem rst_TyL : True := by
  w_top off
  k_with_none
  trivial
/-- a turn's end: the names and the ledger stand for a state of the word -/
def FEnd {σ : Type} (h₀ : Heap) (L : Addr) (Led : σ → List (Addr × Obj)) (ps : σ → List (Str × Value)) (P : σ → Prop) (I : Addr) (oI : Obj) (s₁ s₂ : Shared) : Prop :=
  ∃ (c : σ) (h' : Heap) (tk : Nat) (m' : Str → Option Value), s₂ = { s₁ with heap := h', toks := tk } ∧ Fr h₀ L h' m' ∧ News h₀ L h' ((I, oI) :: Led c) ∧ (∀ p ∈ Led c, p.1 ≠ I) ∧ (∀ p ∈ ps c, m' p.1 = some p.2) ∧ P c
def FPost {σ : Type} (h₀ : Heap) (L : Addr) (Led : σ → List (Addr × Obj)) (ps : σ → List (Str × Value)) (P : σ → Prop) (I : Addr) (oI : Obj) (s₁ : Shared) (Q : Flow → Shared → Prop) (f : Flow) (s₂ : Shared) : Prop :=
  match f with
  | .ret v => Q (.ret v) s₂
  | .brk => Q .next s₂
  | _ => FEnd h₀ L Led ps P I oI s₁ s₂
theorem binds_eq {ps : List (Str × Value)} {m : Str → Option Value} (h : ∀ p ∈ ps, m p.1 = some p.2) : kstB m ps = m := funext fun _ => kstB_eq h fun _ => rfl
theorem binds_x {ps : List (Str × Value)} {m : Str → Option Value} {x : Str} {v : Value} (h : ∀ p ∈ ps, m p.1 = some p.2) : (fun y => if y = x then some v else m y) = fun y => if y = x then some v else kstB m ps y := by
  rw [binds_eq h]
theorem for_list {σ : Type} {prog : Program} {w : World} {A : Around} {E : Value → Shared → Prop} {s : Shared} {env : Env} {h₀ : Heap} {x : Str} {body : List Stmt} {Q : Flow → Shared → Prop} {l : Addr} {vs : List Value} {ns : List Int} {m₀ : Str → Option Value}
    (Led : σ → List (Addr × Obj)) (ps : σ → List (Str × Value)) (P : Nat → σ → Prop) (c₀ : σ)
    (hh : A.handled = none) (hl : h₀.IsList l vs.toArray) (hi : IntsAre vs ns) (F : Fr h₀ env.locals s.heap m₀) (N : News h₀ env.locals s.heap (Led c₀)) (hk : ∀ p ∈ ps c₀, m₀ p.1 = some p.2) (hp : P 0 c₀)
    (turn : ∀ i n t (c : σ) (u : Str → Option Value) h tk I oI, ns[i]? = some n → (∀ p ∈ Led c, p.1 ≠ I) → P i c → Fr h₀ env.locals h (fun y => if y = x then some (.int n t) else kstB u (ps c) y) → News h₀ env.locals h ((I, oI) :: Led c) →
      wpAny (model prog w) A (execs body env) (FPost h₀ env.locals Led ps (P (i + 1)) I oI { s with heap := h, toks := tk } Q) E { s with heap := h, toks := tk })
    (done : ∀ (c : σ) (u : Str → Option Value) h tk, P ns.length c → Fr h₀ env.locals h (kstB u (ps c)) → News h₀ env.locals h (Led c) → Q .next { s with heap := h, toks := tk }) :
    wpAny (model prog w) A (pyIter (.ref l)) (fun it s₂ => LoopAtV prog w A h₀ env x body Q E it s₂) E s := by
  have hls : s.heap.IsList l vs.toArray := stays_list F.keep hl
  obtain ⟨ol, hol, _⟩ := id hl
  have hlt : l < h₀.objs.size := Heap.lt_size hol
  have hlts : l < s.heap.objs.size := Nat.lt_trans (Nat.lt_of_lt_of_le hlt F.above) F.ns.lt
  refine wpAny_pyIter_list hls ?_
  have W := Walks.list (prog := prog) (w := w) hh s.heap.objs.size l (Nat.ne_of_lt hlts) vs.toArray
  rw [show vs.toArray.size = ns.length by simp [hi.length]] at W
  have up : ∀ b o, s.heap.get? b = some o → (s.heap.push { cls := .type "list_iterator", data := .fields #[.ref l, .int 0 0] }).get? b = some o := fun b o e => Heap.get?_push_of_some _ e
  refine ⟨_, _, _, ns.length, _, _, m₀, Led c₀, fun i m nx => ∃ c : σ, nx = Led c ∧ (∀ p ∈ ps c, m p.1 = some p.2) ∧ P i c, rfl, W, ?_, ?_, ?_, ⟨⟨_, Heap.get?_push_size _ rfl, rfl, rfl⟩, stays_list up hls⟩, F.push _, N.grown up, ⟨c₀, rfl, hk, hp⟩, ?_, ?_⟩
  · intro hm
    rcases List.mem_cons.mp hm with e | hm
    · exact absurd F.ns.lt (e ▸ Nat.lt_irrefl _)
    · exact absurd (Nat.lt_of_lt_of_le hlt F.above) ((List.mem_singleton.mp hm) ▸ Nat.lt_irrefl _)
  · intro b hb
    rw [List.mem_singleton.mp hb]
    exact next_is_new F
  · intro p hp' hI
    exact absurd (Heap.lt_size (N p hp').1) ((List.mem_singleton.mp hI) ▸ Nat.lt_irrefl _)
  · rintro i v m₁ news₁ s₁ own ⟨g, tk, rfl⟩ hin hP ⟨c, rfl, hk', hp'⟩ hoff hown _ hmem hst F₁ N₁
    obtain ⟨⟨oI, hoI, _⟩, _⟩ := hst
    have hI : (s.heap.objs.size, oI) ∈ own := hmem _ (.head _) (next_is_new F) oI hoI
    have hone : ∀ p ∈ own, p = (s.heap.objs.size, oI) := by
      intro p hq
      have z := N₁ p (List.mem_append_left _ hq)
      rcases List.mem_cons.mp (hown p hq) with e1 | e1
      · have z1 := z.1
        rw [e1, hoI] at z1
        exact Prod.ext e1 (Option.some.inj z1).symm
      · rw [List.mem_singleton.mp e1, hol] at z
        exact absurd z.2.2 (by simp)
    have hin' : i < ns.length := hin
    obtain ⟨t, hx⟩ := hi.get i ns[i] (by simp [hin'])
    have hv : v = .int ns[i] t := by
      have hP' : vs[i]? = some v := by simpa using hP
      rw [hx] at hP'; exact (Option.some.inj hP').symm
    subst hv
    rw [binds_x hk'] at F₁
    have N₂ : News h₀ env.locals g ((s.heap.objs.size, oI) :: Led c) := fun p hq => by
      rcases List.mem_cons.mp hq with rfl | hq
      · exact N₁ _ (List.mem_append_left _ hI)
      · exact N₁ _ (List.mem_append_right _ hq)
    refine wpAny_mono (turn i ns[i] t c m₁ g tk _ oI (by simp [hin']) (fun p hq e => hoff p hq (List.mem_singleton.mpr e)) hp' F₁ N₂) (fun f s₂ q => ?_) fun _ _ e => e
    have fin : FEnd h₀ env.locals Led ps (P (i + 1)) s.heap.objs.size oI { s with heap := g, toks := tk } s₂ →
        LoopStepU h₀ env.locals [s.heap.objs.size] own (fun m nx => ∃ c : σ, nx = Led c ∧ (∀ p ∈ ps c, m p.1 = some p.2) ∧ P (i + 1) c) { s with heap := g, toks := tk } .next s₂ := by
      rintro ⟨c', h', tk', m', e, F', N', ho, hb, hp2⟩
      refine ⟨rfl, h', tk', m', Led c', e, F', fun p hq => ?_, fun p hq hm => ho p hq (List.mem_singleton.mp hm), c', rfl, hb, hp2⟩
      rcases List.mem_append.mp hq with hq | hq
      · rw [hone p hq]; exact N' _ (.head _)
      · exact N' _ (.tail _ hq)
    cases f with
    | ret v => exact .ret q
    | brk => exact .brk q
    | next => exact .next (fin q)
    | cont => exact .cont (fin q)
  · rintro h' tk m' news' F' N' _ ⟨c, rfl, hk', hp'⟩
    rw [← binds_eq hk'] at F'
    exact done c m' h' tk hp' F' N'
theorem FEnd.intro {σ : Type} {h₀ : Heap} {L : Addr} {Led : σ → List (Addr × Obj)} {ps : σ → List (Str × Value)} {P : σ → Prop} {I : Addr} {oI : Obj} {s₁ s₂ : Shared} (c : σ) {h' : Heap} {tk : Nat} {m' : Str → Option Value} {news : List (Addr × Obj)}
    (F : Fr h₀ L h' m') (N : News h₀ L h' news) (sub : ∀ p ∈ (I, oI) :: Led c, p ∈ news) (off : ∀ p ∈ Led c, p.1 ≠ I) (hk : ∀ p ∈ ps c, m' p.1 = some p.2) (hp : P c) (e : s₂ = { s₁ with heap := h', toks := tk } := by rfl) : FEnd h₀ L Led ps P I oI s₁ s₂ :=
  ⟨c, h', tk, m', e, F, fun p hq => N p (sub p hq), off, hk, hp⟩

/-- the walk halts here -/
def Halt (P : Prop) : Prop := P
theorem For_halt {prog : Program} {w : World} {A : Around} {E : Value → Shared → Prop} {s : Shared} {env : Env} {h₀ : Heap} {x : Str} {body : List Stmt} {Q : Flow → Shared → Prop} {m : Str → Option Value} {px pos : Pos} {iter : PySem.Expr} (F : Fr h₀ env.locals s.heap m) (hx : env.kindOf x = some .local)
    (hp : (env.scope.kind == .class || (env.scope.kind == .module && env.locals != env.globals)) = false)
    (h : wpAny (model prog w) A (eval iter env) (fun xv s₁ => Halt (wpAny (model prog w) A (pyIter xv) (fun it s₂ => LoopAtV prog w A h₀ env x body Q E it s₂) E s₁)) E s)
    (hs : ∀ x, foldedSetIterable iter env x = pure x := by intro _; rfl)
    (hE : PassesOwn (model prog w) A env E := by passes_own) :
    wpAny (model prog w) A (exec (.For (.Name x px) iter body [] pos) env) Q E s := For_invVF F hx hp h hs hE
theorem with_led {P : Prop} {h₀ h : Heap} {L D : Addr} {o : Obj} {r : List (Addr × Obj)} (_N : News h₀ L h ((D, o) :: r)) (k : ∀ D', D' = D → P) : P := k D rfl

section
variable {prog : Program} {w : World} {A : Around} {E : Value → Shared → Prop} {s : Shared} {h₀ : Heap} {L D : Addr} {m : Str → Option Value} {news news' : List (Addr × Obj)} {n : Nat}
theorem pop_snoc {vs : List Value} {v : Value} {Q : Value → Shared → Prop} (F : Fr h₀ L s.heap m) (N : News h₀ L s.heap news) (U : Upd D (listOf (vs ++ [v]).toArray n) (listOf vs.toArray (n + 1)) news news')
    (hz : (vs ++ [v]).length ≤ sizeLine) (h : ∀ h', Fr h₀ L h' m → News h₀ L h' news' → Q v { s with heap := h' }) : wpAny (model prog w) A (call (.builtin "list.pop") [.ref D]) Q E s :=
  kl_pop F N (p := vs) (y := v) (by simpa using kpa_last v vs) U hz h
theorem append_snoc {vs : List Value} {v : Value} {Q : Value → Shared → Prop} (F : Fr h₀ L s.heap m) (N : News h₀ L s.heap news) (U : Upd D (listOf vs.toArray n) (listOf (vs ++ [v]).toArray (n + 1)) news news')
    (hz : vs.length ≤ sizeLine) (h : ∀ h', Fr h₀ L h' m → News h₀ L h' news' → Q .none { s with heap := h' }) : wpAny (model prog w) A (call (.builtin "list.append") [.ref D, v]) Q E s :=
  append_K (its := vs.toArray) (x := v) F N (by rw [List.push_toArray]; exact U) h (by rw [List.size_toArray]; exact hz)
end
end Ty

end TyLPart
section TyGPart
open PySem PySem.W PyProof.Rows PySem.Calls PySem.Spec
set_option maxRecDepth 100000
namespace Ty
theorem rst_TyG : True := by
  w_top off
  k_with_none
  trivial
abbrev iv (p : Int × Tok) : Value := .int p.1 p.2
abbrev gLed (D : Addr) (c : List Value × Nat) : List (Addr × Obj) := [(D, listOf c.1.toArray c.2)]
abbrev gSt (M : Mach Int) (ns : List Int) (i : Nat) (c : List Value × Nat) : Prop := ∃ st : List (Int × Tok), c.1 = st.reverse.map iv ∧ M.run (ns.take i) [] = some (st.map Prod.fst) ∧ st.length ≤ i
theorem g_snoc {M : Mach Int} {ns : List Int} {i k : Nat} {r : List (Int × Tok)} {x y : Int} {t : Tok} (hr : M.run (ns.take (i + 1)) [] = some (x :: r.map Prod.fst)) (hl : r.length ≤ i) (e : y = x) : gSt M ns (i + 1) (r.reverse.map iv ++ [Value.int y t], k) :=
  ⟨(y, t) :: r, by simp, by subst e; exact hr, by simp; omega⟩
theorem ln_TyG_1 : True := by
  k_with_none
  k_with "execs cons" => (k_here; (with_reducible refine wpAny_execs_cons ?_); k_unmd; k_fold)
  k_with "subscriptTail Name BinOp ref int" => (k_here; refine list_item (by k_asm) (by with_reducible assumption) (by omega) (by omega) (by with_reducible assumption) ?_)
  k_with "call builtin:list.pop" => (k_here; k_dflt (refine pop_snoc (by k_asm) (by k_asm) (by k_upd) (by (simp only [List.length_append, List.length_map, List.length_reverse, List.length_cons, List.length_nil, PySem.sizeLine_eq]; omega)) ?_); intro h9k F9k N9k; (try dsimp only at N9k))
  k_with "call builtin:list.append" => (k_here; k_dflt (refine append_snoc (by k_asm) (by k_asm) (by k_upd) (by (simp only [List.length_append, List.length_map, List.length_reverse, List.length_cons, List.length_nil, PySem.sizeLine_eq] at *; omega)) ?_); intro h9k F9k N9k; (try dsimp only at N9k))
  k_with "exec For Name Name cons nil" => (k_here; (rename Fr _ _ _ _ => lF9k); (with_unfolding_all refine For_halt lF9k (by exact rfl) (by exact rfl) ?_))
  trivial
theorem gb1 {n l u : Int} (h : n = 19) (e : l = u) : l = if n = 19 then (if l = u then l else 0) else if n = 20 then min l u else max l u := by rw [if_pos h, if_pos e]
theorem gb2 {n l u : Int} (h : n = 19) (e : l ≠ u) : 0 = if n = 19 then (if l = u then l else 0) else if n = 20 then min l u else max l u := by rw [if_pos h, if_neg e]
theorem gb3 {n l u : Int} (h : n ≠ 19) (e : n = 20) : (if u < l then u else l) = if n = 19 then (if l = u then l else 0) else if n = 20 then min l u else max l u := by rw [if_neg h, if_pos e]; split <;> omega
theorem gb4 {n l u : Int} (h : n ≠ 19) (e : n ≠ 20) : (if u > l then u else l) = if n = 19 then (if l = u then l else 0) else if n = 20 then min l u else max l u := by rw [if_neg h, if_neg e]; split <;> omega
theorem grey_leaf {g0 g1 g2 : Int} (t0 t1 t2 : Tok) {n : Int} (hn : n = 256 ∨ n = 257 ∨ n = 258) : ∃ gv tv, [Value.int g0 t0, .int g1 t1, .int g2 t2][(n - 256).toNat]? = some (.int gv tv) ∧ gv = (greyM g0 g1 g2).leaf n := by
  rcases hn with rfl | rfl | rfl
  · exact ⟨_, _, rfl, rfl⟩
  · exact ⟨_, _, rfl, rfl⟩
  · exact ⟨_, _, rfl, rfl⟩
set_option maxHeartbeats 8000000 in
theorem grey_meets {prog : Program} {w : World} {rw gr : Addr} {vs : List Value} {ns : List Int} {g0 g1 g2 g : Int} {t0 t1 t2 : Tok} (hi : IntsAre vs ns) (hF : Formed ns) (hs : ∀ x ∈ ns, IsSym x) (hlen : ns.length ≤ 100)
    (hg : (greyM g0 g1 g2).run ns [] = some [g]) :
    Meets prog w 160 1 [.ref rw, .ref gr] (fun h => h.IsList rw vs.toArray ∧ h.IsList gr [Value.int g0 t0, .int g1 t1, .int g2 t2].toArray) (fun h v h' => ∃ t, v = .int g t) := by
  intro mean mg mb dp un gd cn cs L ad ccd cl outer A₀ base h₀ m s Q E B F X T V hk hd hu hp hret
  have V1 := V.keeps F.keep
  have hroom : dp < recursionLimit := by omega
  obtain ⟨hlr, hlg⟩ := hp
  refine enter (w := w) (binds := [(Str.ofString "row", .ref rw), (Str.ofString "greys", .ref gr)]) B F X T hk (by k_is) (by k_is) hroom (BindsTo.of_eq rfl) (locs rfl) ?_ (by decide)
  intro L' h₁ F' N' B' X' T'
  clear X T B V
  k_fold
  refine fold3 ?_
  intro Mv Av ev
  k_steps
  unfold Halt
  rename Fr _ _ _ _ => lF'
  rename News _ _ _ _ => lN'
  refine with_led lN' (fun D hD => ?_)
  subst hD
  refine for_list (gLed D) (fun _ => [(Str.ofString "row", .ref rw), (Str.ofString "greys", .ref gr), (Str.ofString "pile", .ref D)]) (gSt (greyM g0 g1 g2) ns) ([], 0) rfl hlr hi lF' lN' ?_ ⟨[], rfl, rfl, Nat.le_refl _⟩ ?_ ?_
  · kst_all
  · intro i n t c u h tk I oI hn hoff hP F' N'
    obtain ⟨c, k⟩ := c
    obtain ⟨st, hcv, hrun, hcl⟩ := hP
    obtain ⟨st', hst, hrun'⟩ := hF.at _ hn hrun
    have hsym := hs n (List.mem_of_getElem? hn)
    have hil : i < ns.length := (List.getElem?_eq_some_iff.mp hn).1
    have hDI := neN (hoff (D, _) (.head _))
    replace F' : Fr s.heap L' _ _ := F'
    replace N' : News s.heap L' _ _ := N'
    dsimp only at hcv
    subst hcv
    dsimp only [gLed] at N'
    clear lF' lN' F
    rcases step_cases _ hst with ⟨hc, e⟩ | ⟨hc, a, r, e1, e⟩ | ⟨hc, hc2, x, y, r, e1, e⟩
    · subst e
      have h3 : n = 256 ∨ n = 257 ∨ n = 258 := by unfold IsSym at hsym; omega
      have hn9 : n ≤ 258 := by omega
      obtain ⟨gv, tv, hgv, hgl⟩ := grey_leaf (g0 := g0) (g1 := g1) (g2 := g2) t0 t1 t2 h3
      clear h3
      k_unmd
      k_fold
      k_steps
      all_goals (try exact absurd hc (by with_reducible assumption))
      all_goals (
        (try k_unfold)
        dsimp only [FPost]
        refine FEnd.intro (_, _) (by assumption) (by assumption) (fun _ h => h) (by intro p hp; rw [List.mem_singleton.mp hp]; exact hDI) (by kst_all) (g_snoc hrun' hcl hgl))
    · subst hc
      match st, e1 with
      | (a', ta) :: st, e1 =>
      simp only [List.map_cons, List.cons.injEq] at e1
      obtain ⟨rfl, rfl⟩ := e1
      subst e
      simp only [List.reverse_cons, List.map_append, List.map_cons, List.map_nil, List.length_cons] at N' hcl
      k_unmd
      k_fold
      k_steps
      all_goals (
          (try k_unfold)
          dsimp only [FPost]
          refine FEnd.intro (_, _) (by assumption) (by assumption) (fun _ h => h) (by intro p hp; rw [List.mem_singleton.mp hp]; exact hDI) (by kst_all) (g_snoc hrun' (by omega) rfl))
    · have h3 : n = 19 ∨ n = 20 ∨ n = 21 := by unfold IsSym at hsym; omega
      match st, e1 with
      | (u', tu) :: (l', tl) :: st, e1 =>
      simp only [List.map_cons, List.cons.injEq] at e1
      obtain ⟨rfl, rfl, rfl⟩ := e1
      subst e
      simp only [List.reverse_cons, List.map_append, List.map_cons, List.map_nil, List.length_cons] at N' hcl
      k_unmd
      k_fold
      k_steps
      all_goals (try exact absurd (by with_reducible assumption : n = 31) hc2)
      all_goals (
        (try k_unfold)
        dsimp only [FPost]
        refine FEnd.intro (_, _) (by assumption) (by assumption) (fun _ h => h) (by intro p hp; rw [List.mem_singleton.mp hp]; exact hDI) (by kst_all) (g_snoc hrun' (by omega) ?_)
        simp only [greyM]
        first
        | exact gb1 (by with_reducible assumption) (by with_reducible assumption)
        | exact gb2 (by with_reducible assumption) (by with_reducible assumption)
        | exact gb3 (by with_reducible assumption) (by with_reducible assumption)
        | exact gb4 (by with_reducible assumption) (by with_reducible assumption))
  · intro c u h tk hP F' N'
    obtain ⟨c, k⟩ := c
    obtain ⟨st, hcv, hrun, hcl⟩ := hP
    rw [List.take_length, hg] at hrun
    match st, hrun with
    | [(z, tz)], hrun =>
    cases hrun
    dsimp only at hcv
    subst hcv
    replace F' : Fr s.heap L' _ _ := F'
    replace N' : News s.heap L' _ _ := N'
    dsimp only [gLed, List.reverse_cons, List.reverse_nil, List.nil_append, List.map_cons, List.map_nil] at N'
    clear lF' lN' F
    dsimp only
    k_unmd
    k_steps
    all_goals (
      (try dsimp only)
      (repeat (k_unfold; (try dsimp only)))
      exact ret_of hret (by assumption) ⟨_, rfl⟩)
end Ty

end TyGPart
section TyC2Part
open PySem PySem.W PyProof.Rows PySem.Calls PySem.Spec
set_option maxRecDepth 100000
namespace Ty
theorem rst_TyC2 : True := by
  w_top off
  k_with_none
  trivial
/-- a def of the text whose names its blocks keep is entered -/
theorem enterC {prog : Program} {w : World} {K : Frag} {p : Program} {loose : List Str} {mean : ExcName → Option Value} {mg mb : Str → Option Value}
    {dp un : Nat} {gd : Option (List Code)} {cn : Str} {cs : Scope} {L a : Addr} {ccd : Value} {cl : List (Str × Addr)} {outer : List Env} {A₀ : Around} {base h₀ : Heap} {m : Str → Option Value} {s : Shared}
    {Q E : Value → Shared → Prop} {name qual : Str} {params : Arguments} {body : List Stmt} {scope : Scope} {dV kV doc pm cdv ct oc : Value} {an od : Option Addr} {osl : Array (Option Value)} {f : Addr} {vs : List Value} {binds : List (Str × Value)}
    (B : Below A₀ base outer h₀) (F : Fr h₀ L s.heap m) (X : K.In h₀) (T : Top p loose mean mg mb h₀) (hke : cs.kind = .function)
    (ho : K.lookup f = some ⟨oc, od, .func (fnOf name qual params body scope dV kV doc pm an cdv ct), osl⟩) (hcd : codeIn K cdv qual = true) (hroom : dp < recursionLimit)
    (hbind : BindsTo s (fnOf name qual params body scope dV kV doc pm an cdv ct) ⟨vs, []⟩ binds) (hkind : (binds.all fun y => scope.names.lookup y.1 == some .local || scope.names.lookup y.1 == some .cell) = true)
    (hnd : ((cellsFrom 0 scope.names []).map (·.1)).Nodup)
    (h : ∀ L' h₁ tk cells, Fr s.heap L' h₁ (bindL (envOfC qual scope L' f cdv).kindOf binds fun _ => none) → News s.heap L' h₁ cells → CellsAre (bindC (envOfC qual scope L' f cdv).kindOf binds fun _ => none) (cellsFrom (L' + 1) scope.names []) cells →
      Below (ktrTop dp un gd cn cs L a ccd cl outer) base (envX cn cs L a ccd cl :: outer) s.heap → K.In s.heap → Top p loose mean mg mb s.heap →
      wpAny (model prog w) (ktrTop (dp + 1) (un + 3) gd qual scope L' f cdv (cellsFrom (L' + 1) scope.names []) (envX cn cs L a ccd cl :: outer)) (execs body (envX qual scope L' f cdv (cellsFrom (L' + 1) scope.names [])))
        (fun fl s' => Q (match fl with | .ret v => v | _ => .none) s')
        (fun e s' => wpAny (model prog w) (ktrTop (dp + 1) (un + 3) gd qual scope L' f cdv (cellsFrom (L' + 1) scope.names []) (envX cn cs L a ccd cl :: outer)) (leaving (envX qual scope L' f cdv (cellsFrom (L' + 1) scope.names [])) e) (fun _ s'' => E e s'') (fun e' s'' => E e' s'') s')
        { s with heap := h₁, toks := tk })
    (hco : scope.isCoroutine = false := by rfl) (hgen : scope.isGenerator = false := by rfl) (hk : scope.kind = .function := by rfl) :
    wpAny (model prog w) (ktrTop dp un gd cn cs L a ccd cl outer) (call (.ref f) vs) Q E s := by
  have nm : ∀ b o, h₀.get? b = some o → s.heap.get? b = some o := F.keep
  have B₁ := pushX (env := envX cn cs L a ccd cl) B F rfl hke
  refine wpAny_call (codeAny_call_function hroom (nm _ _ (X _ _ ho)) rfl hco hgen rfl (codeRec_of (X.keeps nm) hcd) (hbind _ _ _ _ ?_))
  refine wpAny_newFunctionEnv_cells hk (kindsX hkind _) fun env' he s' x => ?_
  subst he
  refine ⟨(T.nolimit.keeps nm).keeps x.toInCall.keep, codeAny_func ?_⟩
  obtain ⟨h₁, tk, rfl, _⟩ := x.done
  obtain ⟨cells, NC, Y⟩ := Cl.news (h₀ := s.heap) (Nat.le_refl _) fun n c hm => ⟨x.cell n c (lookup_of_mem_nodup (cellsFrom_names scope.names 0 (s.heap.objs.size + 1) [] [] rfl ▸ hnd) hm), x.above n c hm⟩
  exact wpAny_mono (h s.heap.objs.size h₁ tk cells ⟨x.toInCall.ns, x.toInCall.keep, Nat.le_refl _⟩ NC Y ⟨rfl, fun b o e => B₁.stays b o e, B₁.frames⟩ (X.keeps nm) (T.keeps nm)) (fun fl s' hl => hl) fun _ _ y => y

theorem ForC_halt {prog : Program} {w : World} {A : Around} {E : Value → Shared → Prop} {s : Shared} {env : Env} {body : List Stmt} {Q : Flow → Shared → Prop} {target iter : PySem.Expr} {pos : Pos}
    (h : wpAny (model prog w) A (eval iter env) (fun x s₁ => Halt (wpAny (model prog w) A (pyIter x) (fun it s₂ =>
      codeAny (model prog w) A (.forLoop target it body [] env) (fun r s' => match r with | .ok f => Q f s' | .error e => cameBackBy (model prog w) A env E e s') s₂) E s₁)) E s)
    (hs : ∀ x, foldedSetIterable iter env x = pure x := by intro _; rfl) :
    wpAny (model prog w) A (exec (.For target iter body [] pos) env) Q E s := wpAny_For h hs

theorem for_range {σ : Type} {prog : Program} {w : World} {A : Around} {E : Value → Shared → Prop} {s : Shared} {env : Env} {h₀ : Heap} {body : List Stmt} {target : PySem.Expr} {Q : Flow → Shared → Prop} {r : Addr} {a b : Int} {t₀ u₀ v₀ : Tok} {n : Nat} {m₀ : Str → Option Value}
    (Led : σ → List (Addr × Obj)) (ps : σ → List (Str × Value)) (P : Nat → σ → Prop) (c₀ : σ)
    (hh : A.handled = none) (hr : IsRange s.heap r a b 1 t₀ u₀ v₀) (hsmall : Builtin.Range.small a b 1 = true) (hn : Builtin.Range.rangeSize a b 1 = (n : Int))
    (F : Fr h₀ env.locals s.heap m₀) (N : News h₀ env.locals s.heap (Led c₀)) (hk : ∀ p ∈ ps c₀, m₀ p.1 = some p.2) (hp : P 0 c₀)
    (turn : ∀ i t (c : σ) (u : Str → Option Value) h tk I oI (E' : Value → Shared → Prop), i < n → (∀ p ∈ Led c, p.1 ≠ I) → P i c → Fr h₀ env.locals h (kstB u (ps c)) → News h₀ env.locals h ((I, oI) :: Led c) →
      wpAny (model prog w) A (assign target env (.int (a + (i : Int)) t)) (fun _ s₂ => wpAny (model prog w) A (execs body env) (FPost h₀ env.locals Led ps (P (i + 1)) I oI { s with heap := h, toks := tk } Q) E' s₂) E' { s with heap := h, toks := tk })
    (done : ∀ (c : σ) (u : Str → Option Value) h tk, P n c → Fr h₀ env.locals h (kstB u (ps c)) → News h₀ env.locals h (Led c) → Q .next { s with heap := h, toks := tk })
    (ht : ∀ it v, letOwnedTupleGo target it v = pure () := by intro _ _; rfl) :
    wpAny (model prog w) A (pyIter (.ref r)) (fun it s₂ => codeAny (model prog w) A (.forLoop target it body [] env) (fun r s' => match r with | .ok f => Q f s' | .error e => cameBackBy (model prog w) A env E e s') s₂) E s := by
  refine wpAny_pyIter_range hr hsmall ?_
  have W := LCg.range_walks (prog := prog) (w := w) (A := A) (I := s.heap.objs.size) hh a n
  have hI₀ : h₀.get? s.heap.objs.size = none := next_is_new F
  have hLI : env.locals ≠ s.heap.objs.size := Nat.ne_of_lt F.ns.lt
  have up : ∀ q o, s.heap.get? q = some o → (s.heap.push { cls := .type "range_iterator", data := .fields #[rawInt a, rawInt (Builtin.Range.rangeSize a b 1), rawInt 1] }).get? q = some o := fun q o e => Heap.get?_push_of_some _ e
  refine codeAny_forLoop (ht := ht _)
    (fun k s' => ∃ (h' : Heap) (tk : Nat) (i : Nat) (c : σ) (m' : Str → Option Value), s' = { s with heap := h', toks := tk } ∧ i ≤ n ∧ k = n + 1 - i ∧ IsRangeIter h' s.heap.objs.size (a + (i : Nat) * 1) ((n : Int) - (i : Nat)) 1 ∧
      Fr h₀ env.locals h' m' ∧ News h₀ env.locals h' (Led c) ∧ (∀ p ∈ Led c, p.1 ≠ s.heap.objs.size) ∧ (∀ p ∈ ps c, m' p.1 = some p.2) ∧ P i c) ?_ (n + 1)
    ⟨_, _, 0, c₀, m₀, rfl, Nat.zero_le _, rfl, (by show IsRangeIter _ _ _ _ _; rw [hn]; simpa using Heap.get?_push_size _ rfl), F.push _, N.grown up, fun p hq => Nat.ne_of_lt (Heap.lt_size (N p hq).1), hk, hp⟩
  rintro k s' ⟨h', tk, i, c, m', rfl, hi, rfl, hst, F', N', off, hk', hp'⟩
  have next : ∀ h₁ : Heap, (∀ b o, b ∉ [s.heap.objs.size] → h'.get? b = some o → h₁.get? b = some o) → Fr h₀ env.locals h₁ m' ∧ News h₀ env.locals h₁ (Led c) := fun h₁ hk₁ =>
    ⟨LCg.fr_but F' hk₁ hLI hI₀, LCg.news_but N' hk₁ off⟩
  by_cases hlt : i < n
  · refine W.item i _ _ _ hlt hst fun v h₁ tk₁ hP hst₁ hk₁ => ?_
    obtain ⟨F₁, N₁⟩ := next h₁ hk₁
    obtain ⟨t, rfl⟩ := hP
    rw [← binds_eq hk'] at F₁
    have N₂ : News h₀ env.locals h₁ ((s.heap.objs.size, ({ cls := .type "range_iterator", dict := none, data := .fields #[rawInt (a + ((i + 1 : Nat) : Int) * 1), rawInt ((n : Int) - ((i + 1 : Nat) : Int)), rawInt 1], slots := #[] } : Obj)) :: Led c) := fun p hq => by
      rcases List.mem_cons.mp hq with rfl | hq
      · exact ⟨hst₁, Ne.symm hLI, hI₀⟩
      · exact N₁ p hq
    refine wpAny_mono (turn i t c m' h₁ tk₁ _ _ _ hlt off hp' F₁ N₂) (fun _ s₂ q => wpAny_mono q (fun f s₃ h₃ => ?_) fun _ _ e => e) fun _ _ e => e
    have fin : FEnd h₀ env.locals Led ps (P (i + 1)) s.heap.objs.size ({ cls := .type "range_iterator", dict := none, data := .fields #[rawInt (a + ((i + 1 : Nat) : Int) * 1), rawInt ((n : Int) - ((i + 1 : Nat) : Int)), rawInt 1], slots := #[] } : Obj) { s with heap := h₁, toks := tk₁ } s₃ → ∃ m, m < n + 1 - i ∧ ∃ (h' : Heap) (tk : Nat) (i : Nat) (c : σ) (m' : Str → Option Value), s₃ = { s with heap := h', toks := tk } ∧ i ≤ n ∧ m = n + 1 - i ∧ IsRangeIter h' s.heap.objs.size (a + (i : Nat) * 1) ((n : Int) - (i : Nat)) 1 ∧
      Fr h₀ env.locals h' m' ∧ News h₀ env.locals h' (Led c) ∧ (∀ p ∈ Led c, p.1 ≠ s.heap.objs.size) ∧ (∀ p ∈ ps c, m' p.1 = some p.2) ∧ P i c := by
      rintro ⟨c', h₃', tk₃, m₃, e, F₃, N₃, off₃, hk₃, hp₃⟩
      exact ⟨n + 1 - (i + 1), by omega, h₃', tk₃, i + 1, c', m₃, e, hlt, rfl, (N₃ _ (.head _)).1, F₃, fun p hq => N₃ p (.tail _ hq), off₃, hk₃, hp₃⟩
    cases f with
    | ret v => exact h₃
    | brk => exact h₃
    | next => exact fin h₃
    | cont => exact fin h₃
  · obtain rfl : i = n := Nat.le_antisymm hi (Nat.not_lt.mp hlt)
    refine W.done _ _ _ hst fun h₁ tk₁ hk₁ => wpAny_execs_nil ?_
    obtain ⟨F₁, N₁⟩ := next h₁ hk₁
    rw [← binds_eq hk'] at F₁
    exact done c m' h₁ tk₁ hp' F₁ N₁
end Ty

end TyC2Part
section TyTPart
open PySem PySem.W PyProof.Rows PySem.Calls PySem.Spec
set_option maxRecDepth 100000
namespace Ty
theorem rst_TyT : True := by
  w_top off
  k_with_none
  trivial
theorem q_of {s : Shared} {Q : Value → Shared → Prop} {g v : Int} {t : Tok} {tk : Nat} (h : ∀ t' tk, Q (.int g t') { s with toks := tk }) (e : v = g) : Q (.int v t) { s with toks := tk } := by
  subst e; exact h t tk
section
theorem ln_TyT_1 : True := by
  k_with_none
  k_with "execs cons" => (k_here; (with_reducible refine wpAny_execs_cons ?_); k_unmd; k_fold)
  k_with "eval Name" => (k_dflt (first | refine LCgL.ld_own (by assumption) (by assumption) (by assumption) (by assumption) ?_ (by assumption) (by assumption) | refine lcf_cell (by assumption) (by assumption) (by assumption) (by assumption) ?_ (by assumption) (by assumption)))
  trivial
set_option maxHeartbeats 4000000 in
theorem grey_elt {prog : Program} {w : World} {A : Around} {E : Value → Shared → Prop} {s : Shared} {h₀ : Heap} {L C c : Addr} {news : List (Addr × Obj)} {scope : Scope} {cl : List (Str × Addr)} {env : Env} {m₂ : Str → Option Value} {oC o : Obj} {p lv : Int} {t u : Tok} {Q : Value → Shared → Prop}
    {p1 p2 p3 p4 p5 p6 p7 p8 p9 p10 p11 p12 p13 p14 : Pos} (N : News h₀ L s.heap news) (hm : (C, oC) ∈ news) (hC : LCg.NsObj oC m₂) (hx : m₂ (Str.ofString "part") = some (.int p t))
    (hc : cl.lookup (Str.ofString "level") = some c) (hm2 : (c, o) ∈ news) (hd : o.data = .cell (some (.int lv u)))
    (h : ∀ t' tk, Q (.int (greyOf lv p) t') { s with toks := tk })
    (hk : (compEnvC scope cl C env).scope.kind = .function) (hl1 : (compEnvC scope cl C env).kindOf (Str.ofString "part") = some .local) (hl2 : (compEnvC scope cl C env).kindOf (Str.ofString "level") = some .cell) :
    wpAny (model prog w) A (eval (.IfExp (.Compare (.Name (Str.ofString "part") p1) [.GtE] [.Name (Str.ofString "level") p2] p3) (.Constant (.int 1) 0 p4)
      (.IfExp (.Compare (.BinOp (.Constant (.int 8) 0 p5) .Sub (.Name (Str.ofString "part") p6) p7) [.GtE] [.Name (Str.ofString "level") p8] p9) (.UnaryOp .USub (.Constant (.int 1) 0 p10) p11) (.Constant (.int 0) 0 p12) p13) p14) (compEnvC scope cl C env)) Q E s := by
  k_steps
  all_goals (
    (try dsimp only)
    refine q_of h ?_
    unfold greyOf
    (try simp only [decide_eq_true_eq, decide_eq_false_iff_not] at *)
    (repeat' split) <;> omega)
end
/-- what the four levels of a part come to -/
theorem told_sum {p0 p1 p2 a g5 g6 g7 g8 : Int} {ns : List Int} (h0 : 0 ≤ p0 ∧ p0 ≤ 8) (h1 : 0 ≤ p1 ∧ p1 ≤ 8) (h2 : 0 ≤ p2 ∧ p2 ≤ 8) (hs : ∀ x ∈ ns, IsSym x) (ha : (partM p0 p1 p2).run ns [] = some [a])
    (e5 : (greyM (greyOf 5 p0) (greyOf 5 p1) (greyOf 5 p2)).run ns [] = some [g5]) (e6 : (greyM (greyOf 6 p0) (greyOf 6 p1) (greyOf 6 p2)).run ns [] = some [g6])
    (e7 : (greyM (greyOf 7 p0) (greyOf 7 p1) (greyOf 7 p2)).run ns [] = some [g7]) (e8 : (greyM (greyOf 8 p0) (greyOf 8 p1) (greyOf 8 p2)).run ns [] = some [g8]) : 4 + g5 + g6 + g7 + g8 = a := by
  obtain ⟨ha', rfl⟩ := grey_rel (by decide) h0 h1 h2 hs ha e5
  obtain ⟨_, rfl⟩ := grey_rel (by decide) h0 h1 h2 hs ha e6
  obtain ⟨_, rfl⟩ := grey_rel (by decide) h0 h1 h2 hs ha e7
  obtain ⟨_, rfl⟩ := grey_rel (by decide) h0 h1 h2 hs ha e8
  exact told_of_greys ha'
/-- the grey at a level, of a row and three parts -/
def gAt (ns : List Int) (p0 p1 p2 : Int) (k : Nat) : Int := match (greyM (greyOf (5 + (k : Int)) p0) (greyOf (5 + (k : Int)) p1) (greyOf (5 + (k : Int)) p2)).run ns [] with | some [g] => g | _ => 0
theorem gAt_run {ns : List Int} (hF : Formed ns) (p0 p1 p2 : Int) (k : Nat) : (greyM (greyOf (5 + (k : Int)) p0) (greyOf (5 + (k : Int)) p1) (greyOf (5 + (k : Int)) p2)).run ns [] = some [gAt ns p0 p1 p2 k] := by
  obtain ⟨g, hg⟩ := hF.run (greyM (greyOf (5 + (k : Int)) p0) (greyOf (5 + (k : Int)) p1) (greyOf (5 + (k : Int)) p2))
  unfold gAt
  rw [hg]
def tSum (ns : List Int) (p0 p1 p2 : Int) : Nat → Int
  | 0 => 4
  | k + 1 => tSum ns p0 p1 p2 k + gAt ns p0 p1 p2 k
theorem tSum_end {p0 p1 p2 a : Int} {ns : List Int} (hF : Formed ns) (h0 : 0 ≤ p0 ∧ p0 ≤ 8) (h1 : 0 ≤ p1 ∧ p1 ≤ 8) (h2 : 0 ≤ p2 ∧ p2 ≤ 8) (hs : ∀ x ∈ ns, IsSym x) (ha : (partM p0 p1 p2).run ns [] = some [a]) : tSum ns p0 p1 p2 4 = a :=
  told_sum h0 h1 h2 hs ha (gAt_run hF p0 p1 p2 0) (gAt_run hF p0 p1 p2 1) (gAt_run hF p0 p1 p2 2) (gAt_run hF p0 p1 p2 3)
theorem ldnX {M : Model} {A : Around} {E : Value → Shared → Prop} {s : Shared} {h₀ : Heap} {L a : Addr} {m : Str → Option Value} {cn : Str} {cs : Scope} {ccd : Value} {cl : List (Str × Addr)} {x : Str} {v : Value} {Q : Value → Shared → Prop} (F : Fr h₀ L s.heap m) (hv : m x = some v) (h : Q v s)
    (hk : cs.kind = .function) (hx : (envX cn cs L a ccd cl).kindOf x = some .local) : wpAny M A (loadName (envX cn cs L a ccd cl) x) Q E s := wpAny_loadName_local hk hx F.ns hv h
theorem ln_TyT_2 : True := by
  k_with_none
  k_with "execs cons" => (k_here; (with_reducible refine wpAny_execs_cons ?_); k_unmd; k_fold)
  k_with "loadName" => (k_here; k_dflt (refine ldnX (by k_asm) (by rfl) ?_ (by rfl) (by rfl)))
  trivial
abbrev tLed (C : Addr) (c : (Int × Tok) × Obj) : List (Addr × Obj) := [(C, c.2)]
theorem ln_TyT_3 : True := by
  k_with "room" => (first | omega | (simp only [recursionLimit, cLine] at *; omega))
  trivial
theorem halt_of {P : Prop} (h : Halt P) : P := h
theorem ln_TyT_4 : True := by
  k_with "eval IfExp" => (refine halt_of ?_)
  k_with "exec For Name Call cons nil" => (k_here; k_dflt (refine ForC_halt ?_))
  trivial
set_option maxHeartbeats 8000000 in
theorem told_meets {prog : Program} {w : World} {rw pr : Addr} {vs : List Value} {ns : List Int} {p0 p1 p2 a : Int} {t0 t1 t2 : Tok} (hi : IntsAre vs ns) (hF : Formed ns) (hs : ∀ x ∈ ns, IsSym x) (hlen : ns.length ≤ 100)
    (h0 : 0 ≤ p0 ∧ p0 ≤ 8) (h1 : 0 ≤ p1 ∧ p1 ≤ 8) (h2 : 0 ≤ p2 ∧ p2 ≤ 8) (ha : (partM p0 p1 p2).run ns [] = some [a]) :
    Meets prog w 165 2 [.ref rw, .ref pr] (fun h => h.IsList rw vs.toArray ∧ h.IsList pr [Value.int p0 t0, .int p1 t1, .int p2 t2].toArray) (fun h v h' => ∃ t, v = .int a t) := by
  intro mean mg mb dp un gd cn cs L ad ccd cl outer A₀ base h₀ m s Q E B F X T V hk hd hu hp hret
  have V1 := V.keeps F.keep
  have hroom : dp < recursionLimit := by omega
  obtain ⟨hlr, hlp⟩ := hp
  refine enterC (w := w) (binds := [(Str.ofString "row", .ref rw), (Str.ofString "parts", .ref pr)]) B F X T hk (by k_is) (by k_is) hroom (BindsTo.of_eq rfl) rfl (by decide +kernel) ?_
  intro L' h₁ tk cells F' N' Y' B' X' T'
  obtain ⟨oc, rfl, hoc⟩ := CellsAre.one Y'
  clear X T B V
  k_unmd
  k_fold
  k_steps
  unfold Halt
  rename IsRange _ _ _ _ _ _ _ _ => rgX
  rename Fr _ _ _ _ => lF'
  rename News _ _ _ _ => lN'
  refine' for_range (tLed (L' + 1)) (fun c => [(Str.ofString "row", .ref rw), (Str.ofString "parts", .ref pr), (Str.ofString "told", .int c.1.1 c.1.2)]) (fun i c => c.1.1 = tSum ns p0 p1 p2 i ∧ ∃ v, c.2.data = .cell v) ((4, _), oc) rfl rgX (by decide) (n := 4) (by decide) lF' lN' ?hk ⟨rfl, _, hoc⟩ ?turn ?done
  case hk => kst_all
  case turn =>
    intro i t c u h tk2 I oI E' hi4 hoff hP F' N'
    obtain ⟨⟨tv, tt⟩, o⟩ := c
    obtain ⟨hv, v0, hd0⟩ := hP
    dsimp only at hv hd0
    subst hv
    have hDI := neN (hoff (L' + 1, _) (.head _))
    replace F' : Fr s.heap L' _ _ := F'
    replace N' : News s.heap L' _ _ := N'
    dsimp only [tLed] at N' F'
    clear lF' lN' F rgX
    k_unmd
    k_fold
    k_steps
    unfold Halt
    refine' grey_elt ?N ?hm ?hC ?hx ?hc ?hm2 ?hd ?_ ?hk ?h1 ?h2
    case hk => rfl
    case h1 => rfl
    case h2 => rfl
    case N => k_asm
    case hm => k_mem
    case hC => with_reducible assumption
    case hx => with_reducible assumption
    case hc => rfl
    case hm2 => k_mem
    case hd => with_reducible assumption
    intro t' tk'
    (try dsimp only)
    k_steps
    unfold Halt
    refine' grey_elt ?N ?hm ?hC ?hx ?hc ?hm2 ?hd ?_ ?hk ?h1 ?h2
    case hk => rfl
    case h1 => rfl
    case h2 => rfl
    case N => k_asm
    case hm => k_mem
    case hC => with_reducible assumption
    case hx => with_reducible assumption
    case hc => rfl
    case hm2 => k_mem
    case hd => with_reducible assumption
    intro t' tk'
    (try dsimp only)
    k_steps
    unfold Halt
    refine' grey_elt ?N ?hm ?hC ?hx ?hc ?hm2 ?hd ?_ ?hk ?h1 ?h2
    case hk => rfl
    case h1 => rfl
    case h2 => rfl
    case N => k_asm
    case hm => k_mem
    case hC => with_reducible assumption
    case hx => with_reducible assumption
    case hc => rfl
    case hm2 => k_mem
    case hd => with_reducible assumption
    intro t' tk'
    (try dsimp only)
    k_steps
    refine Meets.use (grey_meets hi hF hs hlen (gAt_run hF p0 p1 p2 i)) (by k_asm) (by k_asm) (by k_asm) (by k_asm) (by k_asm) (by k_asm) rfl (by k_extra "room") (by k_extra "room") ⟨stays_list (Fr.keep (by k_asm)) hlr, News.isList (by k_asm) (by k_mem)⟩ ?_
    intro r' h' tk' F' N' _ hp'
    obtain ⟨t', he'⟩ := hp'
    subst he'
    (try dsimp only)
    k_unmd
    k_fold
    k_steps
    (repeat (k_unfold; (try dsimp only)))
    dsimp only [FPost]
    refine' FEnd.intro ((_, _), _) ?F ?N ?sub ?off ?hk ?hp
    case F => assumption
    case N => assumption
    case hk => kst_all
    case sub => lcg_sub
    case off => intro p hp; rw [List.mem_singleton.mp hp]; exact hDI
    case hp => exact ⟨rfl, _, by assumption⟩
  case done =>
    intro c u h tk hP F' N'
    obtain ⟨⟨tv, tt⟩, o⟩ := c
    obtain ⟨hv, -⟩ := hP
    dsimp only at hv
    rw [tSum_end hF h0 h1 h2 hs ha] at hv
    subst hv
    replace F' : Fr s.heap L' _ _ := F'
    replace N' : News s.heap L' _ _ := N'
    clear lF' lN' F rgX
    dsimp only
    k_unmd
    k_steps
    all_goals (
      (try dsimp only)
      (repeat (k_unfold; (try dsimp only)))
      exact ret_of hret (by assumption) ⟨_, rfl⟩)
end Ty

end TyTPart
section TyXPart
open PySem PySem.W PyProof.Rows PySem.Calls PySem.Spec
set_option maxRecDepth 100000
namespace Ty
theorem rst_TyX : True := by
  w_top off
  k_with_none
  trivial
abbrev Tri := Int × Int × Int
def InR (t : Tri) : Prop := (0 ≤ t.1 ∧ t.1 ≤ 8) ∧ (0 ≤ t.2.1 ∧ t.2.1 ≤ 8) ∧ (0 ≤ t.2.2 ∧ t.2.2 ≤ 8)
def bn (x l u : Int) : Int := if x = 19 then med l u else if x = 20 then min l u else max l u
/-- the machine of the colours -/
def colM (c0 c1 c2 : Tri) : Mach Tri := ⟨fun x => if x = 256 then c0 else if x = 257 then c1 else c2, fun a => (8 - a.1, 8 - a.2.1, 8 - a.2.2), fun x l u => (bn x l.1 u.1, bn x l.2.1 u.2.1, bn x l.2.2 u.2.2)⟩
theorem bn_in {x l u : Int} (hl : 0 ≤ l ∧ l ≤ 8) (hu : 0 ≤ u ∧ u ≤ 8) : 0 ≤ bn x l u ∧ bn x l u ≤ 8 := by
  unfold bn med; repeat' split
  all_goals omega
theorem col_parts {c0 c1 c2 t : Tri} {row : List Int} (hs : ∀ x ∈ row, IsSym x) (h : (colM c0 c1 c2).run row [] = some [t]) :
    (partM c0.1 c1.1 c2.1).run row [] = some [t.1] ∧ (partM c0.2.1 c1.2.1 c2.2.1).run row [] = some [t.2.1] ∧ (partM c0.2.2 c1.2.2 c2.2.2).run row [] = some [t.2.2] := by
  refine ⟨?_, ?_, ?_⟩
  · obtain ⟨t', e, k⟩ := run_rel (colM c0 c1 c2) (partM c0.1 c1.1 c2.1) (fun a b => a.1 = b) (by rintro x (rfl | rfl | rfl) <;> rfl) (by rintro a b rfl; rfl) (by rintro x a b c d _ rfl rfl; rfl) row hs [] [] .nil _ h
    cases k with | cons k1 k2 => cases k2; rw [e, k1]
  · obtain ⟨t', e, k⟩ := run_rel (colM c0 c1 c2) (partM c0.2.1 c1.2.1 c2.2.1) (fun a b => a.2.1 = b) (by rintro x (rfl | rfl | rfl) <;> rfl) (by rintro a b rfl; rfl) (by rintro x a b c d _ rfl rfl; rfl) row hs [] [] .nil _ h
    cases k with | cons k1 k2 => cases k2; rw [e, k1]
  · obtain ⟨t', e, k⟩ := run_rel (colM c0 c1 c2) (partM c0.2.2 c1.2.2 c2.2.2) (fun a b => a.2.2 = b) (by rintro x (rfl | rfl | rfl) <;> rfl) (by rintro a b rfl; rfl) (by rintro x a b c d _ rfl rfl; rfl) row hs [] [] .nil _ h
    cases k with | cons k1 k2 => cases k2; rw [e, k1]

structure Col where
  a : Addr
  x : Int
  y : Int
  z : Int
  t : Tok
  u : Tok
  v : Tok
def Col.vals (e : Col) : List Value := [.int e.x e.t, .int e.y e.u, .int e.z e.v]
def Col.tri (e : Col) : Tri := (e.x, e.y, e.z)
abbrev Col.ref (e : Col) : Value := .ref e.a
def Holds (h₀ : Heap) (objs : List (Addr × Obj)) (a : Addr) (vs : List Value) : Prop := h₀.IsList a vs.toArray ∨ ∃ n, (a, listOf vs.toArray n) ∈ objs
theorem Holds.list {h₀ h : Heap} {L : Addr} {m : Str → Option Value} {objs news : List (Addr × Obj)} {a : Addr} {vs : List Value} (H : Holds h₀ objs a vs) (F : Fr h₀ L h m) (N : News h₀ L h news) (sub : ∀ p ∈ objs, p ∈ news) : h.IsList a vs.toArray := by
  rcases H with H | ⟨n, hm⟩
  · exact stays_list F.keep H
  · exact ⟨_, (N _ (sub _ hm)).1, rfl, n, rfl⟩
theorem Holds.mono {h₀ : Heap} {objs objs' : List (Addr × Obj)} {a : Addr} {vs : List Value} (H : Holds h₀ objs a vs) (sub : ∀ p ∈ objs, p ∈ objs') : Holds h₀ objs' a vs := by
  rcases H with H | ⟨n, hm⟩
  · exact .inl H
  · exact .inr ⟨n, sub _ hm⟩
theorem col_item {prog : Program} {w : World} {A : Around} {E : Value → Shared → Prop} {s : Shared} {value slice : PySem.Expr} {a : Addr} {vs : List Value} {k : Int} {u : Tok} {v : Value} {Q : Value → Shared → Prop} {h₀ : Heap} {L : Addr} {m : Str → Option Value} {objs news : List (Addr × Obj)}
    (F : Fr h₀ L s.heap m) (N : News h₀ L s.heap news) (H : Holds h₀ objs a vs) (sub : ∀ p ∈ objs, p ∈ news) (h0 : 0 ≤ k) (hhi : k < 2 ^ 63) (hx : vs[k.toNat]? = some v) (h : Q v s)
    (hs : subscripted slice false (.ref a) (.int k u) = operate [.ref a, .int k u] (getItem (.ref a) (.int k u)) := by with_unfolding_all rfl) :
    wpAny (model prog w) A (subscriptTail value slice (.ref a) (.int k u)) Q E s :=
  have hl' : s.heap.IsList a vs.toArray := H.list F N sub
  tail_any hl'.typeIs slot_list_getitem.lookup (wpAny_getItem_list hl' h0 hhi (by simpa using hx) h) hs
abbrev mLed (D : Addr) (c : List Value × Nat × List (Addr × Obj)) : List (Addr × Obj) := (D, listOf c.1.toArray c.2.1) :: c.2.2
def mSt (h₀ : Heap) (M : Mach Tri) (ns : List Int) (D : Addr) (i : Nat) (c : List Value × Nat × List (Addr × Obj)) : Prop :=
  ∃ st : List Col, c.1 = st.reverse.map Col.ref ∧ M.run (ns.take i) [] = some (st.map Col.tri) ∧ st.length ≤ i ∧ (∀ e ∈ st, InR e.tri ∧ Holds h₀ c.2.2 e.a e.vals) ∧ (∀ p ∈ c.2.2, p.1 ≠ D)
/-- a colour laid upon the pile -/
theorem m_snoc {h₀ : Heap} {M : Mach Tri} {ns : List Int} {D : Addr} {i k : Nat} {r : List Col} {objs objs' : List (Addr × Obj)} (e : Col) (hr : M.run (ns.take (i + 1)) [] = some (e.tri :: r.map Col.tri)) (hl : r.length ≤ i)
    (hc : ∀ e ∈ r, InR e.tri ∧ Holds h₀ objs e.a e.vals) (sub : ∀ p ∈ objs, p ∈ objs') (hD : ∀ p ∈ objs', p.1 ≠ D) (he : InR e.tri) (hh : Holds h₀ objs' e.a e.vals) : mSt h₀ M ns D (i + 1) (r.reverse.map Col.ref ++ [Value.ref e.a], k, objs') := by
  refine ⟨e :: r, by simp, by simpa using hr, by simp; omega, ?_, hD⟩
  intro e' he'
  rcases List.mem_cons.mp he' with rfl | he'
  · exact ⟨he, hh⟩
  · exact ⟨(hc _ he').1, (hc _ he').2.mono sub⟩
end Ty

end TyXPart
section TyYPart
open PySem PySem.W PyProof.Rows PySem.Calls PySem.Spec
set_option maxRecDepth 100000
namespace Ty
theorem rst_TyY : True := by
  w_top off
  k_with_none
  trivial
theorem ne_new {h₀ h : Heap} {L a b : Addr} {o : Obj} {news : List (Addr × Obj)} (N : News h₀ L h news) (hm : (a, o) ∈ news) (hb : h.get? b = none) : a ≠ b := fun e => by
  have := (N _ hm).1
  dsimp only at this
  rw [e, hb] at this; cases this
theorem ints_snoc {vs : List Value} {l : List Int} {i : Nat} {y b : Int} {t : Tok} (h : IntsAre vs (l.take i)) (hb : l[i]? = some b) (e : y = b) : IntsAre (vs ++ [.int y t]) (l.take (i + 1)) := by
  have hs : l.take (i + 1) = l.take i ++ [b] := by rw [List.take_add_one, hb]; rfl
  rw [hs]
  subst e
  generalize l.take i = ns at h
  induction h with
  | nil => exact .cons _ _ .nil
  | cons n u _ ih => exact .cons n u ih
theorem ints_len {vs : List Value} {ns : List Int} (h : IntsAre vs ns) : vs.length = ns.length := by
  induction h with
  | nil => rfl
  | cons _ _ _ ih => rw [List.length_cons, List.length_cons, ih]
theorem ints_three {vs : List Value} {a b c : Int} (h : IntsAre vs [a, b, c]) : ∃ t u v, vs = [.int a t, .int b u, .int c v] := by
  cases h with | cons _ t h => cases h with | cons _ u h => cases h with | cons _ v h => cases h; exact ⟨t, u, v, rfl⟩
theorem lt_off {d : Addr} {objs : List (Addr × Obj)} (h : AllLt d objs) : ∀ p ∈ objs, p.1 ≠ d := fun p hp => Nat.ne_of_lt (ktn_ltOf h p hp)
theorem ln_TyY_1 : True := by
  k_with_none
  k_with "execs cons" => (k_here; (with_reducible refine wpAny_execs_cons ?_); k_unmd; k_fold)
  k_with "room" => (first | omega | (simp only [recursionLimit, cLine] at *; omega))
  trivial
local macro_rules | `(tactic| k_all) => `(tactic| with_reducible assumption)
local macro_rules | `(tactic| lcg_src) => `(tactic| (with_unfolding_all (intro p hp; repeat (first | exact hp | refine List.Mem.tail _ ?_))))
theorem ln_TyY_2 : True := by
  k_with "subscriptTail Name BinOp ref int" => (k_here; refine list_item (by k_asm) (by with_reducible assumption) (by omega) (by omega) (by with_reducible assumption) ?_)
  k_with "subscriptTail Name Name ref int" => (k_here; refine col_item (by k_asm) (by k_asm) (by with_reducible assumption) (by lcg_src) (by omega) (by omega) (by with_reducible assumption) ?_)
  k_with "call builtin:list.pop" => (k_here; k_dflt (refine pop_snoc (by k_asm) (by k_asm) (by k_upd) (by (simp only [List.length_append, List.length_map, List.length_reverse, List.length_cons, List.length_nil, PySem.sizeLine_eq]; omega)) ?_); intro h9k F9k N9k; (try dsimp only at N9k))
  k_with "call builtin:list.append" => (k_here; k_dflt (refine append_snoc (by k_asm) (by k_asm) (by k_upd) (by (simp only [List.length_append, List.length_map, List.length_reverse, List.length_cons, List.length_nil, PySem.sizeLine_eq] at *; omega)) ?_); intro h9k F9k N9k; (try dsimp only at N9k))
  k_with "exec For Name Name cons nil" => (k_here; (rename Fr _ _ _ _ => lF9k); (with_unfolding_all refine For_halt lF9k (by exact rfl) (by exact rfl) ?_))
  k_with "exec For Name Call cons nil" => (k_here; k_dflt (refine ForC_halt ?_))
  trivial
/-- the colour of a symbol -/
theorem leaf_at {h : Heap} {e0 e1 e2 : Col} {n : Int} (hn : n = 256 ∨ n = 257 ∨ n = 258) (h0 : InR e0.tri) (h1 : InR e1.tri) (h2 : InR e2.tri) (l0 : h.IsList e0.a e0.vals.toArray) (l1 : h.IsList e1.a e1.vals.toArray) (l2 : h.IsList e2.a e2.vals.toArray) :
    ∃ e : Col, [Value.ref e0.a, .ref e1.a, .ref e2.a][(n - 256).toNat]? = some (Value.ref e.a) ∧ (colM e0.tri e1.tri e2.tri).leaf n = e.tri ∧ InR e.tri ∧ h.IsList e.a e.vals.toArray := by
  rcases hn with rfl | rfl | rfl
  · exact ⟨e0, rfl, rfl, h0, l0⟩
  · exact ⟨e1, rfl, rfl, h1, l1⟩
  · exact ⟨e2, rfl, rfl, h2, l2⟩
/-- a part of two colours, and what they come to -/
theorem col_at (el eu : Col) (n : Int) {j : Nat} (hj : j < 3) : ∃ l tl u tu, el.vals[((0 : Int) + (j : Int)).toNat]? = some (.int l tl) ∧ eu.vals[((0 : Int) + (j : Int)).toNat]? = some (.int u tu) ∧
    [bn n el.x eu.x, bn n el.y eu.y, bn n el.z eu.z][j]? = some (bn n l u) := by
  have h3 : j = 0 ∨ j = 1 ∨ j = 2 := by omega
  rcases h3 with rfl | rfl | rfl
  · exact ⟨_, _, _, _, rfl, rfl, rfl⟩
  · exact ⟨_, _, _, _, rfl, rfl, rfl⟩
  · exact ⟨_, _, _, _, rfl, rfl, rfl⟩
set_option maxHeartbeats 8000000 in
theorem mixed_meets {prog : Program} {w : World} {rw cl0 : Addr} {vs : List Value} {ns : List Int} {e0 e1 e2 : Col} {r : Tri} (hi : IntsAre vs ns) (hF : Formed ns) (hs : ∀ x ∈ ns, IsSym x) (hlen : ns.length ≤ 100)
    (h0 : InR e0.tri) (h1 : InR e1.tri) (h2 : InR e2.tri) (hg : (colM e0.tri e1.tri e2.tri).run ns [] = some [r]) :
    Meets prog w 153 6 [.ref rw, .ref cl0] (fun h => h.IsList rw vs.toArray ∧ h.IsList cl0 [Value.ref e0.a, .ref e1.a, .ref e2.a].toArray ∧ h.IsList e0.a e0.vals.toArray ∧ h.IsList e1.a e1.vals.toArray ∧ h.IsList e2.a e2.vals.toArray)
      (fun h v h' => ∃ D a k t u z, v = .ref D ∧ h.get? D = none ∧ h'.get? D = some (listOf [Value.ref a].toArray k) ∧ h'.IsList a [Value.int r.1 t, .int r.2.1 u, .int r.2.2 z].toArray) := by
  intro mean mg mb dp un gd cn cs L ad ccd cl outer A₀ base h₀ m s Q E B F X T V hk hd hu hp hret
  have V1 := V.keeps F.keep
  have hroom : dp < recursionLimit := by omega
  obtain ⟨hlr, hlc, hl0, hl1, hl2⟩ := hp
  refine enter (w := w) (binds := [(Str.ofString "row", .ref rw), (Str.ofString "colours", .ref cl0)]) B F X T hk (by k_is) (by k_is) hroom (BindsTo.of_eq rfl) (locs rfl) ?_ (by decide)
  intro L' h₁ F' N' B' X' T'
  clear X T B V
  k_fold
  refine fold3 ?_
  intro Mv Av ev
  k_steps
  unfold Halt
  rename Fr _ _ _ _ => lF'
  rename News _ _ _ _ => lN'
  refine with_led lN' (fun D hD => ?_)
  subst hD
  refine for_list (mLed D) (fun _ => [(Str.ofString "colours", .ref cl0), (Str.ofString "pile", .ref D)]) (mSt s.heap (colM e0.tri e1.tri e2.tri) ns D) ([], 0, []) rfl hlr hi lF' lN' ?_ ⟨[], rfl, rfl, Nat.le_refl _, (fun _ h => nomatch h), fun _ h => nomatch h⟩ ?_ ?_
  · kst_all
  · intro i n t c u h tk I oI hn hoff hP F' N'
    obtain ⟨c, k, objs⟩ := c
    obtain ⟨st, hcv, hrun, hcl, hce, hoD⟩ := hP
    obtain ⟨st', hst, hrun'⟩ := hF.at _ hn hrun
    have hsym := hs n (List.mem_of_getElem? hn)
    have hil : i < ns.length := (List.getElem?_eq_some_iff.mp hn).1
    have hDI := neN (hoff (D, _) (.head _))
    have hoI : ∀ p ∈ objs, p.1 ≠ I := fun p hp => hoff p (.tail _ hp)
    replace F' : Fr s.heap L' _ _ := F'
    replace N' : News s.heap L' _ _ := N'
    dsimp only at hcv hce hoD
    subst hcv
    dsimp only [mLed] at N'
    clear lF' lN' F
    rcases step_cases _ hst with ⟨hc, e⟩ | ⟨hc, a, r, e3, e⟩ | ⟨hc, hc2, x, y, r, e3, e⟩
    · subst e
      have hn9 : n ≤ 258 := by unfold IsSym at hsym; omega
      obtain ⟨el, her, hlt, hin, hll⟩ := leaf_at (h := s.heap) (n := n) (by unfold IsSym at hsym; omega) h0 h1 h2 hl0 hl1 hl2
      rw [hlt] at hrun'
      k_unmd
      k_fold
      k_steps
      all_goals (try exact absurd hc (by with_reducible assumption))
      (repeat (k_unfold; (try dsimp only)))
      dsimp only [FPost]
      exact FEnd.intro (_, _, objs) (by assumption) (by assumption) (fun _ h => h) (by intro p hp; rcases List.mem_cons.mp hp with rfl | hp; exact hDI; exact hoI p hp) (by kst_all) (m_snoc el hrun' hcl hce (fun _ h => h) hoD hin (.inl hll))
    · subst hc
      match st, e3 with
      | ea :: st, e3 =>
      simp only [List.map_cons, List.cons.injEq] at e3
      obtain ⟨rfl, rfl⟩ := e3
      subst e
      simp only [List.reverse_cons, List.map_append, List.map_cons, List.map_nil, List.length_cons] at N' hcl
      have hE := hce ea (.head _)
      k_unmd
      k_fold
      k_steps
      rename Fr _ _ _ _ => fF
      rename News _ _ _ _ => fN
      refine Meets.use (opp_meets (t1 := ea.t) (t2 := ea.u) (t3 := ea.v) hE.1.1 hE.1.2.1 hE.1.2.2) (by k_asm) fF fN (by k_asm) (by k_asm) (by k_asm) rfl (by k_extra "room") (by k_extra "room") (hE.2.list fF fN (by lcg_src)) ?_
      intro r' h' tk' F2 N2 _ hp'
      obtain ⟨D2, u1, u2, u3, n2, he', hn', hg'⟩ := hp'
      subst he'
      have hDD := neN (ne_new (a := D) fN (by k_mem) hn')
      have hDI2 := neN (ne_new (a := I) fN (by k_mem) hn')
      have hoD2 : ∀ p ∈ objs, p.1 ≠ D2 := fun p hp => ne_new fN (.tail _ (.tail _ hp)) hn'
      replace N2 := news_add fF N2 hn' hg'
      clear fF fN
      (try dsimp only)
      k_unmd
      k_fold
      k_steps
      (repeat (k_unfold; (try dsimp only)))
      dsimp only [FPost]
      refine FEnd.intro (_, k + 1 + 1, (D2, listOf [Value.int (8 - ea.tri.1) u1, .int (8 - ea.tri.2.1) u2, .int (8 - ea.tri.2.2) u3].toArray n2) :: objs) (by assumption) (by assumption) ?_ ?_ (by kst_all)
        (m_snoc (objs := objs) ⟨D2, 8 - ea.tri.1, 8 - ea.tri.2.1, 8 - ea.tri.2.2, u1, u2, u3⟩ hrun' (by omega) (fun e he => hce e (.tail _ he)) (fun _ h => .tail _ h) ?_ ?_ (.inr ⟨n2, .head _⟩))
      · intro p hp
        simp only [List.mem_cons] at hp ⊢
        rcases hp with h | h | h | h
        · exact .inr (.inl h)
        · exact .inr (.inr (.inl h))
        · exact .inl h
        · exact .inr (.inr (.inr h))
      · intro p hp
        simp only [List.mem_cons] at hp
        rcases hp with rfl | rfl | h
        · exact hDI
        · exact Ne.symm hDI2
        · exact hoI p h
      · intro p hp
        rcases List.mem_cons.mp hp with rfl | h
        · exact Ne.symm hDD
        · exact hoD p h
      · have hin := hE.1
        unfold InR at hin ⊢
        dsimp only [Col.tri] at hin ⊢
        omega
    · have h3 : n = 19 ∨ n = 20 ∨ n = 21 := by unfold IsSym at hsym; omega
      match st, e3 with
      | eu :: el :: st, e3 =>
      simp only [List.map_cons, List.cons.injEq] at e3
      obtain ⟨rfl, rfl, rfl⟩ := e3
      subst e
      simp only [List.reverse_cons, List.map_append, List.map_cons, List.map_nil, List.length_cons] at N' hcl
      obtain ⟨hEu, hHu⟩ := hce eu (.head _)
      obtain ⟨hEl, hHl⟩ := hce el (.tail _ (.head _))
      k_unmd
      k_fold
      k_steps
      all_goals (try exact absurd (by with_reducible assumption : n = 31) hc2)
      unfold Halt
      rename IsRange _ _ _ _ _ _ _ _ => rgX
      rename Fr _ _ _ _ => lF'
      rename News _ _ _ _ => lN'
      refine with_led lN' (fun P hP => ?_)
      subst hP
      rename _ ∧ _ ∧ AllLt _ _ => hl9
      have hIP := neN (Nat.ne_of_lt hl9.1)
      have hDP := neN (Nat.ne_of_lt hl9.2.1)
      have hoP := lt_off hl9.2.2
      clear hl9
      refine' for_range (fun c : List Value × Nat => (P, listOf c.1.toArray c.2) :: (I, oI) :: (D, listOf (st.reverse.map Col.ref).toArray (k + 1 + 1)) :: objs)
        (fun _ => [(Str.ofString "colours", .ref cl0), (Str.ofString "pile", .ref D), (Str.ofString "symbol", .int n t), (Str.ofString "upper", .ref eu.a), (Str.ofString "lower", .ref el.a), (Str.ofString "parts", .ref P)])
        (fun i c => IntsAre c.1 ([bn n el.x eu.x, bn n el.y eu.y, bn n el.z eu.z].take i)) ([], 0) rfl rgX (by decide) (n := 3) (by decide) lF' lN' ?hk IntsAre.nil ?turn ?done
      case hk => kst_all
      case turn =>
        intro j tj c uj hj tkj I2 oI2 E' hj3 hoff2 hPj F' N'
        obtain ⟨pv, pn⟩ := c
        dsimp only at hPj N'
        have hplen := ints_len hPj
        rw [List.length_take] at hplen
        have hPI2 := neN (hoff2 (P, _) (.head _))
        have hII2 := neN (hoff2 (I, _) (.tail _ (.head _)))
        have hDI2 := neN (hoff2 (D, _) (.tail _ (.tail _ (.head _))))
        replace F' : Fr s.heap L' _ _ := F'
        replace N' : News s.heap L' _ _ := N'
        clear lF' lN' rgX
        obtain ⟨lj, tl, uj2, tu, hlj, huj, hbj⟩ := col_at el eu n hj3
        k_unmd
        k_fold
        k_steps
        all_goals (
          (repeat (k_unfold; (try dsimp only)))
          dsimp only [FPost]
          refine FEnd.intro (_, pn + 1) (by assumption) (by assumption) (fun _ h => h) ?_ (by kst_all) (ints_snoc hPj hbj ?_)
          · intro p hp
            rcases List.mem_cons.mp hp with rfl | hp
            · exact hPI2
            · exact hoff2 p (.tail _ hp)
          · unfold bn
            unfold med
            (try simp only [decide_eq_true_eq, decide_eq_false_iff_not] at *)
            (repeat' split) <;> omega)
      case done =>
        intro c uj hj tkj hPj F' N'
        obtain ⟨pv, pn⟩ := c
        dsimp only at hPj N'
        obtain ⟨ta, tb, tc, rfl⟩ := ints_three hPj
        replace F' : Fr s.heap L' _ _ := F'
        replace N' : News s.heap L' _ _ := N'
        clear lF' lN' rgX
        (try dsimp only)
        k_unmd
        k_steps
        (repeat (k_unfold; (try dsimp only)))
        dsimp only [FPost]
        refine FEnd.intro (_, k + 1 + 1 + 1, (P, listOf [Value.int (bn n el.x eu.x) ta, .int (bn n el.y eu.y) tb, .int (bn n el.z eu.z) tc].toArray pn) :: objs) (by assumption) (by assumption) ?_ ?_ (by kst_all)
          (m_snoc (objs := objs) ⟨P, bn n el.x eu.x, bn n el.y eu.y, bn n el.z eu.z, ta, tb, tc⟩ hrun' (by omega) (fun e he => hce e (.tail _ (.tail _ he))) (fun _ h => .tail _ h) ?_ ⟨bn_in (x := n) (l := el.x) (u := eu.x) hEl.1 hEu.1, bn_in (x := n) (l := el.y) (u := eu.y) hEl.2.1 hEu.2.1, bn_in (x := n) (l := el.z) (u := eu.z) hEl.2.2 hEu.2.2⟩ (.inr ⟨pn, .head _⟩))
        · intro p hp
          simp only [List.mem_cons] at hp ⊢
          rcases hp with h | h | h | h
          · exact .inr (.inl h)
          · exact .inr (.inr (.inl h))
          · exact .inl h
          · exact .inr (.inr (.inr h))
        · intro p hp
          simp only [List.mem_cons] at hp
          rcases hp with rfl | rfl | h
          · exact hDI
          · exact Ne.symm hIP
          · exact hoI p h
        · intro p hp
          rcases List.mem_cons.mp hp with rfl | h
          · exact Ne.symm hDP
          · exact hoD p h
  · intro c u h tk hP F' N'
    obtain ⟨c, k, objs⟩ := c
    obtain ⟨st, hcv, hrun, hcl, hce, hoD⟩ := hP
    rw [List.take_length, hg] at hrun
    match st, hrun with
    | [e], hrun =>
    obtain ⟨hEin, hEh⟩ := hce e (.head _)
    have he : e.tri = r := by
      have := Option.some.inj hrun
      simpa using this.symm
    subst he
    dsimp only at hcv hEh
    subst hcv
    replace F' : Fr s.heap L' _ _ := F'
    replace N' : News s.heap L' _ _ := N'
    dsimp only [mLed, List.reverse_cons, List.reverse_nil, List.nil_append, List.map_cons, List.map_nil] at N'
    clear lF' lN' F
    dsimp only
    k_unmd
    k_steps
    all_goals (
      (try dsimp only)
      (repeat (k_unfold; (try dsimp only)))
      (rename Fr _ _ _ _ => fF)
      (rename News _ _ _ _ => fN)
      exact ret_of hret fF ⟨D, e.a, k, e.t, e.u, e.v, rfl, (fN _ (.head _)).2.2, (fN _ (.head _)).1, hEh.list fF fN (fun _ h => .tail _ h)⟩)
end Ty

end TyYPart
section TyHePart
open PySem PySem.W PyProof.Rows PySem.Calls PySem.Spec
set_option maxRecDepth 100000
namespace Ty
theorem rst_TyHe : True := by
  w_top off
  k_with_none
  trivial
abbrev hLed (D : Addr) (c : List Value × Nat) : List (Addr × Obj) := [(D, listOf c.1.toArray c.2)]
/-- nine numbers, none below nought, none beyond the bound -/
def Nine (b : Int) (hs : List Int) : Prop := hs.length = 9 ∧ ∀ x ∈ hs, 0 ≤ x ∧ x ≤ b
theorem nine_set {b y : Int} {hs : List Int} {j : Nat} (h : Nine b hs) (hj : j < 9) (hy : 0 ≤ y ∧ y < 1000000) : Nine (b + 1000000) (hs.set j (hs.getD j 0 + y)) := by
  obtain ⟨hl, hb⟩ := h
  refine ⟨by rw [List.length_set]; exact hl, fun x hx => ?_⟩
  rcases List.mem_or_eq_of_mem_set hx with hx | rfl
  · have := hb x hx; omega
  · have hm : hs.getD j 0 ∈ hs := by
      rw [List.getD_eq_getElem?_getD, List.getElem?_eq_getElem (by omega)]
      exact List.getElem_mem _
    have := hb _ hm
    omega
theorem size_up (n : Nat) : Builtin.Range.rangeSize 0 (n : Int) 1 = (n : Int) := by
  unfold Builtin.Range.rangeSize
  rw [if_pos (by decide)]
  split <;> omega
theorem small_up {n : Nat} (h : n ≤ 63) : Builtin.Range.small 0 (n : Int) 1 = true := by
  unfold Builtin.Range.small
  rw [size_up]
  unfold Builtin.Range.rangeFitsLong
  have h1 : (n : Int) ≤ 63 := by omega
  simp
  omega
theorem ln_TyHe_1 : True := by
  k_with_none
  k_with "execs cons" => (k_here; (with_reducible refine wpAny_execs_cons ?_); k_unmd; k_fold)
  k_with "exec For Name Call cons nil" => (k_here; k_dflt (refine ForC_halt ?_))
  k_with "subscriptTail Name Name ref int" => (k_here; refine list_item (by k_asm) (by with_reducible assumption) (by omega) (by omega) (by with_reducible assumption) ?_)
  trivial
set_option maxHeartbeats 8000000 in
theorem heaps_meets {prog : Program} {w : World} {sc : Addr} {vs : List Value} {ns : List Int} (hi : IntsAre vs ns) (hlen : ns.length ≤ 63) :
    Meets prog w 108 1 [.ref sc] (fun h => h.IsList sc vs.toArray)
      (fun h v h' => ∃ D hv k hs, v = .ref D ∧ h.get? D = none ∧ h'.get? D = some (listOf hv.toArray k) ∧ IntsAre hv hs ∧ Nine 100000000 hs) := by
  intro mean mg mb dp un gd cn cs L ad ccd cl outer A₀ base h₀ m s Q E B F X T V hk hd hu hp hret
  have V1 := V.keeps F.keep
  have hroom : dp < recursionLimit := by omega
  refine enter (w := w) (binds := [(Str.ofString "script", .ref sc)]) B F X T hk (by k_is) (by k_is) hroom (BindsTo.of_eq rfl) (locs rfl) ?_ (by decide)
  intro L' h₁ F' N' B' X' T'
  clear X T B V
  k_fold
  refine fold3 ?_
  intro Mv Av ev
  k_steps
  unfold Halt
  rename IsRange _ _ _ _ _ _ _ _ => rgX
  rename Fr _ _ _ _ => lF'
  rename News _ _ _ _ => lN'
  refine with_led lN' (fun D hD => ?_)
  subst hD
  have e63 : (if 63 < (ns.length : Int) then 63 else (ns.length : Int)) = (ns.length : Int) := if_neg (by omega)
  rw [e63] at rgX
  refine' for_range (hLed D) (fun _ => [(Str.ofString "script", .ref sc), (Str.ofString "heaps", .ref D)]) (fun i c => ∃ hs, IntsAre c.1 hs ∧ Nine (1000 + 1000000 * (i : Int)) hs) ([.int 590 _, .int 251 _, .int 379 _, .int 0 _, .int 4 _, .int 140 _, .int 61 _, .int 45 _, .int 7 _], 0) rfl rgX ?hsm (n := ns.length) ?hrs lF' lN' ?hk ⟨[590, 251, 379, 0, 4, 140, 61, 45, 7], .cons _ _ (.cons _ _ (.cons _ _ (.cons _ _ (.cons _ _ (.cons _ _ (.cons _ _ (.cons _ _ (.cons _ _ .nil)))))))), rfl, by decide⟩ ?turn ?done
  case hsm =>
    exact small_up hlen
  case hrs =>
    exact size_up _
  case hk => kst_all
  case turn =>
    intro i t c u h tk2 I oI E' hi4 hoff hP F' N'
    obtain ⟨pv, pn⟩ := c
    obtain ⟨hs, hpv, hN9⟩ := hP
    dsimp only at hpv
    have hDI := neN (hoff (D, _) (.head _))
    obtain ⟨ty, hy⟩ := hi.get i ns[i] (by simp [hi4])
    have hsx : vs[((0 : Int) + (i : Int)).toNat]? = some (.int ns[i] ty) := by
      rw [show ((0 : Int) + (i : Int)).toNat = i by omega]; exact hy
    have hl9 : hs.length = 9 := hN9.1
    replace F' : Fr s.heap L' _ _ := F'
    replace N' : News s.heap L' _ _ := N'
    dsimp only [hLed] at N' F'
    clear lF' lN' F rgX
    k_unmd
    k_fold
    k_steps
    (repeat (k_unfold; (try dsimp only)))
    dsimp only [FPost]
    have hj9 : ((0 + (i : Int)).fmod 9).toNat < 9 := by
      have := Int.fmod_lt_of_pos (0 + (i : Int)) (b := 9) (by decide)
      omega
    have hy9 : 0 ≤ (ns[i]).fmod 1000000 ∧ (ns[i]).fmod 1000000 < 1000000 := ⟨Int.fmod_nonneg_of_pos _ (by decide), Int.fmod_lt_of_pos _ (by decide)⟩
    have hN9' := nine_set hN9 hj9 hy9
    rw [show (1000 + 1000000 * (i : Int) + 1000000) = 1000 + 1000000 * ((i + 1 : Nat) : Int) by omega] at hN9'
    refine FEnd.intro (_, _) (by assumption) (by assumption) (fun _ h => h) (by intro p hp; rw [List.mem_singleton.mp hp]; exact hDI) (by kst_all) ⟨_, by assumption, hN9'⟩
  case done =>
    intro c u h tk hP F' N'
    obtain ⟨pv, pn⟩ := c
    obtain ⟨hs, hpv, hN9⟩ := hP
    replace F' : Fr s.heap L' _ _ := F'
    replace N' : News s.heap L' _ _ := N'
    clear lF' lN' F rgX
    dsimp only
    k_unmd
    k_steps
    all_goals (
      (try dsimp only)
      (repeat (k_unfold; (try dsimp only)))
      (rename News _ _ _ _ => fN)
      exact ret_of hret (by assumption) ⟨D, pv, pn, hs, rfl, (fN _ (.head _)).2.2, (fN _ (.head _)).1, hpv, hN9.1, fun x hx => ⟨(hN9.2 x hx).1, by have := (hN9.2 x hx).2; omega⟩⟩)
end Ty

end TyHePart
section TyWPart
open PySem PySem.W PyProof.Rows PySem.Calls PySem.Spec
set_option maxRecDepth 100000
namespace Ty
theorem rst_TyW : True := by
  w_top off
  k_with_none
  trivial
/-! a while by a word over its state -/
def WEnd {σ : Type} (h₀ : Heap) (L : Addr) (Led : σ → List (Addr × Obj)) (ps : σ → List (Str × Value)) (P : σ → Prop) (μ : σ → Nat) (c : σ) (s₁ s₂ : Shared) : Prop :=
  ∃ (c' : σ) (h' : Heap) (tk : Nat) (m' : Str → Option Value), s₂ = { s₁ with heap := h', toks := tk } ∧ Fr h₀ L h' m' ∧ News h₀ L h' (Led c') ∧ (∀ p ∈ ps c', m' p.1 = some p.2) ∧ P c' ∧ μ c' < μ c
def WPost {σ : Type} (h₀ : Heap) (L : Addr) (Led : σ → List (Addr × Obj)) (ps : σ → List (Str × Value)) (P : σ → Prop) (μ : σ → Nat) (c : σ) (s₁ : Shared) (Q : Flow → Shared → Prop) (f : Flow) (s₂ : Shared) : Prop :=
  match f with
  | .ret v => Q (.ret v) s₂
  | .brk => Q .next s₂
  | _ => WEnd h₀ L Led ps P μ c s₁ s₂
theorem while_st {σ : Type} {prog : Program} {w : World} {A : Around} {E : Value → Shared → Prop} {s : Shared} {env : Env} {h₀ : Heap} {L : Addr} {body : List Stmt} {test : PySem.Expr} {pos : Pos} {Q : Flow → Shared → Prop} {m₀ : Str → Option Value}
    (Led : σ → List (Addr × Obj)) (ps : σ → List (Str × Value)) (P : σ → Prop) (μ : σ → Nat) (c₀ : σ)
    (F : Fr h₀ L s.heap m₀) (N : News h₀ L s.heap (Led c₀)) (hk : ∀ p ∈ ps c₀, m₀ p.1 = some p.2) (hp : P c₀)
    (turn : ∀ (c : σ) (u : Str → Option Value) h tk, P c → Fr h₀ L h (kstB u (ps c)) → News h₀ L h (Led c) →
      wpAny (model prog w) A (isTrue test env (eval test env)) (fun b s₂ =>
        if b = true then wpAny (model prog w) A (execs body env) (WPost h₀ L Led ps P μ c { s with heap := h, toks := tk } Q) E s₂ else Q .next s₂) E { s with heap := h, toks := tk })
    (hE : PassesOwn (model prog w) A env E := by passes_own) :
    wpAny (model prog w) A (exec (.While test body [] pos) env) Q E s := by
  refine While_inv2 (fun n m nx => ∃ c : σ, nx = Led c ∧ μ c = n ∧ (∀ p ∈ ps c, m p.1 = some p.2) ∧ P c) F N ⟨c₀, rfl, rfl, hk, hp⟩ ?_ hE
  rintro n m₁ nx h tk F₁ N₁ ⟨c, rfl, rfl, hk', hp'⟩
  rw [← binds_eq hk'] at F₁
  refine wpAny_mono (turn c m₁ h tk hp' F₁ N₁) (fun b s₂ p => ?_) fun _ _ x => x
  cases b with
  | false => simpa using p
  | true =>
    simp only [if_true] at p ⊢
    have fin : ∀ s₃, WEnd h₀ L Led ps P μ c { s with heap := h, toks := tk } s₃ → ∃ h' tk m₂ news₂ n', s₃ = { s with heap := h', toks := tk } ∧ Fr h₀ L h' m₂ ∧ News h₀ L h' news₂ ∧ n' < μ c ∧ ∃ c : σ, news₂ = Led c ∧ μ c = n' ∧ (∀ p ∈ ps c, m₂ p.1 = some p.2) ∧ P c := by
      rintro s₃ ⟨c', h', tk', m', e, F', N', hk2, hp2, hm⟩
      exact ⟨h', tk', m', Led c', μ c', e, F', N', hm, c', rfl, rfl, hk2, hp2⟩
    refine wpAny_mono p (fun f s₃ q => ?_) fun _ _ x => x
    cases f with
    | ret v => exact q
    | brk => exact q
    | next => exact fin s₃ q
    | cont => exact fin s₃ q
theorem WEnd.intro {σ : Type} {h₀ : Heap} {L : Addr} {Led : σ → List (Addr × Obj)} {ps : σ → List (Str × Value)} {P : σ → Prop} {μ : σ → Nat} {c : σ} {s₁ s₂ : Shared} (c' : σ) {h' : Heap} {tk : Nat} {m' : Str → Option Value} {news : List (Addr × Obj)}
    (F : Fr h₀ L h' m') (N : News h₀ L h' news) (sub : ∀ p ∈ Led c', p ∈ news) (hk : ∀ p ∈ ps c', m' p.1 = some p.2) (hp : P c') (hm : μ c' < μ c) (e : s₂ = { s₁ with heap := h', toks := tk } := by rfl) : WEnd h₀ L Led ps P μ c s₁ s₂ :=
  ⟨c', h', tk, m', e, F, fun p hq => N p (sub p hq), hk, hp, hm⟩

/-! how deep the row leaves the pile -/
def Dep (row : List Int) (n : Nat) : Prop := unitM.run row [] = some (List.replicate n ())
theorem Dep.nil : Dep [] 0 := rfl
theorem Dep.leaf {row : List Int} {n : Nat} {x : Int} (h : Dep row n) (hx : x > 255) : Dep (row ++ [x]) (n + 1) := by
  unfold Dep at *
  rw [unitM.run_append, h, Option.bind_some, unitM.run_one, unitM.step_leaf hx]; rfl
theorem Dep.neg {row : List Int} {n : Nat} (h : Dep row n) (hn : 1 ≤ n) : Dep (row ++ [31]) n := by
  obtain ⟨k, rfl⟩ : ∃ k, n = k + 1 := ⟨n - 1, by omega⟩
  unfold Dep at *
  rw [unitM.run_append, h, Option.bind_some, unitM.run_one]
  exact unitM.step_neg () _
theorem Dep.bin {row : List Int} {n : Nat} {x : Int} (h : Dep row n) (hn : 2 ≤ n) (hx : x < 31) : Dep (row ++ [x]) (n - 1) := by
  obtain ⟨k, rfl⟩ : ∃ k, n = k + 2 := ⟨n - 2, by omega⟩
  unfold Dep at *
  rw [unitM.run_append, h, Option.bind_some, unitM.run_one]
  exact unitM.step_bin (by omega) (by omega) () () _
/-- a row on the way: its depth, its symbols, its length -/
structure Way (row : List Int) (left : Int) (len : Int) : Prop where
  dep : Dep row left.toNat
  sym : ∀ x ∈ row, IsSym x
  len : (row.length : Int) ≤ len
theorem sym_snoc {row : List Int} {x : Int} (h : ∀ x ∈ row, IsSym x) (hx : IsSym x) : ∀ y ∈ row ++ [x], IsSym y := by
  intro y hy
  rcases List.mem_append.mp hy with hy | hy
  · exact h y hy
  · rw [List.mem_singleton.mp hy]; exact hx
theorem Way.leaf {row : List Int} {left len x : Int} (h : Way row left len) (h0 : 0 ≤ left) (hx : x = 256 ∨ x = 257 ∨ x = 258) : Way (row ++ [x]) (left + 1) (len + 1) :=
  ⟨by have := h.dep.leaf (x := x) (by omega); rwa [show (left + 1).toNat = left.toNat + 1 by omega], sym_snoc h.sym (by unfold IsSym; omega), by have := h.len; rw [List.length_append, List.length_singleton]; omega⟩
theorem Way.neg {row : List Int} {left len : Int} (h : Way row left len) (h0 : 1 ≤ left) : Way (row ++ [31]) left (len + 1) :=
  ⟨h.dep.neg (by omega), sym_snoc h.sym (by unfold IsSym; omega), by have := h.len; rw [List.length_append, List.length_singleton]; omega⟩
theorem Way.bin {row : List Int} {left len x : Int} (h : Way row left len) (h0 : 1 < left) (hx : x = 19 ∨ x = 20 ∨ x = 21) : Way (row ++ [x]) (left - 1) (len + 1) :=
  ⟨by have := h.dep.bin (x := x) (by omega) (by omega); rwa [show (left - 1).toNat = left.toNat - 1 by omega], sym_snoc h.sym (by unfold IsSym; omega), by have := h.len; rw [List.length_append, List.length_singleton]; omega⟩
theorem Way.more {row : List Int} {left len len' : Int} (h : Way row left len) (hl : len ≤ len') : Way row left len' := ⟨h.dep, h.sym, by have := h.len; omega⟩
theorem ints_push {vs : List Value} {ns : List Int} {x : Int} {t : Tok} (h : IntsAre vs ns) : IntsAre (vs ++ [.int x t]) (ns ++ [x]) := by
  induction h with
  | nil => exact .cons _ _ .nil
  | cons n u _ ih => exact .cons n u ih
end Ty

end TyWPart
section TyFoPart
open PySem PySem.W PyProof.Rows PySem.Calls PySem.Spec
set_option maxRecDepth 100000
namespace Ty
theorem rst_TyFo : True := by
  w_top off
  k_with_none
  trivial
abbrev fLed (D : Addr) (c : (List Value × Nat) × (Int × Tok)) : List (Addr × Obj) := [(D, listOf c.1.1.toArray c.1.2)]
abbrev WSt := (List Value × Nat) × (Int × Tok) × (Int × Tok) × (Int × Tok)
theorem ln_TyFo_1 : True := by
  k_with_none
  k_with "execs cons" => (k_here; (with_reducible refine wpAny_execs_cons ?_); k_unmd; k_fold)
  k_with "call builtin:list.append" => (k_here; k_dflt (refine append_snoc (by k_asm) (by k_asm) (by k_upd) (by (simp only [List.length_append, List.length_map, List.length_reverse, List.length_cons, List.length_nil, PySem.sizeLine_eq] at *; omega)) ?_); intro h9k F9k N9k; (try dsimp only at N9k))
  k_with "exec For Name Name cons nil" => (k_here; (rename Fr _ _ _ _ => lF9k); (with_unfolding_all refine For_halt lF9k (by exact rfl) (by exact rfl) ?_))
  k_with "exec While BoolOp cons nil" => (refine halt_of ?_)
  k_with "exec While Compare cons nil" => (refine halt_of ?_)
  trivial
theorem mod3 (x : Int) : 0 ≤ x.fmod 3 ∧ x.fmod 3 < 3 := ⟨Int.fmod_nonneg_of_pos _ (by decide), Int.fmod_lt_of_pos _ (by decide)⟩
theorem div_in {x b d : Int} (h : 0 ≤ x ∧ x ≤ b) (hd : 1 ≤ d) : 0 ≤ x.fdiv d ∧ x.fdiv d ≤ b := by
  rw [Int.fdiv_eq_ediv_of_nonneg _ (by omega)]
  exact ⟨Int.ediv_nonneg h.1 (by omega), Int.le_trans (Int.ediv_le_self _ h.1) h.2⟩
def WP (b q : Int) (c : WSt) : Prop := ∃ row, IntsAre c.1.1 row ∧ Way row c.2.1.1 (b + 6 - 2 * c.2.2.1.1) ∧ 1 ≤ c.2.1.1 ∧ c.2.1.1 ≤ q ∧ 0 ≤ c.2.2.1.1 ∧ c.2.2.1.1 ≤ 2 ∧ 0 ≤ c.2.2.2.1 ∧ c.2.2.2.1 ≤ 100000000
theorem wp_start1 {pv : List Value} {row : List Int} {lf b q n j r : Int} {k : Nat} {t1 t2 t3 t4 : Tok} (hpv : IntsAre pv row) (hW : Way row lf b) (hl : 0 ≤ lf ∧ lf + 1 ≤ q) (hj : 0 ≤ j ∧ j < 3) (hr : 0 ≤ r ∧ r ≤ 100000000) : WP b q ((pv ++ [.int (256 + n.fmod 3) t1], k), (lf + 1, t2), (j, t3), (r, t4)) :=
  ⟨_, ints_push hpv, (hW.leaf hl.1 (by have := mod3 n; omega)).more (by dsimp only; omega), by dsimp only; omega, by dsimp only; omega, hj.1, by dsimp only; omega, hr.1, hr.2⟩
theorem wp_start2 {pv : List Value} {row : List Int} {lf b q n j r : Int} {k : Nat} {t0 t1 t2 t3 t4 : Tok} (hpv : IntsAre pv row) (hW : Way row lf b) (hl : 0 ≤ lf ∧ lf + 1 ≤ q) (hj : 0 ≤ j ∧ j < 3) (hr : 0 ≤ r ∧ r ≤ 100000000) : WP b q ((pv ++ [.int (256 + n.fmod 3) t1] ++ [.int 31 t0], k), (lf + 1, t2), (j, t3), (r, t4)) :=
  ⟨_, ints_push (ints_push hpv), ((hW.leaf hl.1 (by have := mod3 n; omega)).neg (by omega)).more (by dsimp only; omega), by dsimp only; omega, by dsimp only; omega, hj.1, by dsimp only; omega, hr.1, hr.2⟩
theorem wp_turn1 {pv : List Value} {k k' : Nat} {lf b q j r : Int} {t0 t1 t2 t3 t4 t5 t6 : Tok} (h : WP b q ((pv, k), (lf, t1), (j, t2), (r, t3))) (h1 : lf > 1) (h2 : j > 0) : WP b q ((pv ++ [.int (19 + r.fmod 3) t0], k'), (lf - 1, t4), (j - 1, t5), (r.fdiv 6, t6)) := by
  obtain ⟨row, a1, a2, a3, a4, a5, a6, a7, a8⟩ := h
  dsimp only at a1 a2 a3 a4 a5 a6 a7 a8
  have hd := div_in (d := 6) ⟨a7, a8⟩ (by decide)
  exact ⟨_, ints_push a1, (a2.bin h1 (by have := mod3 r; omega)).more (by dsimp only; omega), by dsimp only; omega, by dsimp only; omega, by dsimp only; omega, by dsimp only; omega, hd.1, hd.2⟩
theorem wp_turn2 {pv : List Value} {k k' : Nat} {lf b q j r : Int} {t0 t1 t2 t3 t4 t5 t6 t7 : Tok} (h : WP b q ((pv, k), (lf, t1), (j, t2), (r, t3))) (h1 : lf > 1) (h2 : j > 0) : WP b q ((pv ++ [.int (19 + r.fmod 3) t0] ++ [.int 31 t7], k'), (lf - 1, t4), (j - 1, t5), (r.fdiv 6, t6)) := by
  obtain ⟨row, a1, a2, a3, a4, a5, a6, a7, a8⟩ := h
  dsimp only at a1 a2 a3 a4 a5 a6 a7 a8
  have hd := div_in (d := 6) ⟨a7, a8⟩ (by decide)
  exact ⟨_, ints_push (ints_push a1), ((a2.bin h1 (by have := mod3 r; omega)).neg (by omega)).more (by dsimp only; omega), by dsimp only; omega, by dsimp only; omega, by dsimp only; omega, by dsimp only; omega, hd.1, hd.2⟩
set_option maxHeartbeats 8000000 in
theorem formula_meets {prog : Program} {w : World} {sc : Addr} {vs : List Value} {ns : List Int} (hi : IntsAre vs ns) (hlen : ns.length = 5) (hb : ∀ x ∈ ns, 0 ≤ x ∧ x ≤ 100000000) :
    Meets prog w 115 1 [.ref sc] (fun h => h.IsList sc vs.toArray)
      (fun h v h' => ∃ D rv k row, v = .ref D ∧ h.get? D = none ∧ h'.get? D = some (listOf rv.toArray k) ∧ IntsAre rv row ∧ Formed row ∧ (∀ x ∈ row, IsSym x) ∧ row.length ≤ 40) := by
  intro mean mg mb dp un gd cn cs L ad ccd cl outer A₀ base h₀ m s Q E B F X T V hk hd hu hp hret
  have V1 := V.keeps F.keep
  have hroom : dp < recursionLimit := by omega
  refine enter (w := w) (binds := [(Str.ofString "heaps", .ref sc)]) B F X T hk (by k_is) (by k_is) hroom (BindsTo.of_eq rfl) (locs rfl) ?_ (by decide)
  intro L' h₁ F' N' B' X' T'
  clear X T B V
  k_fold
  refine fold3 ?_
  intro Mv Av ev
  k_steps
  unfold Halt
  rename Fr _ _ _ _ => lF'
  rename News _ _ _ _ => lN'
  refine with_led lN' (fun D hD => ?_)
  subst hD
  refine' for_list (fLed D) (fun c => [(Str.ofString "row", .ref D), (Str.ofString "left", .int c.2.1 c.2.2)]) (fun i c => ∃ row, IntsAre c.1.1 row ∧ Way row c.2.1 (6 * (i : Int)) ∧ 0 ≤ c.2.1 ∧ c.2.1 ≤ (i : Int) ∧ (1 ≤ i → 1 ≤ c.2.1)) (([], 0), (0, _)) rfl hp hi lF' lN' ?hk ⟨[], .nil, ⟨Dep.nil, (fun _ h => nomatch h), by decide⟩, Int.le_refl 0, Int.le_refl 0, fun h => absurd h (by decide)⟩ ?turn ?done
  case hk => kst_all
  case turn =>
    intro i n t c u h tk2 I oI hn hoff hP F' N'
    obtain ⟨⟨pv, pn⟩, lf, tl⟩ := c
    obtain ⟨row, hpv, hW, hl0, hl1, hl2⟩ := hP
    dsimp only at hpv hW hl0 hl1 hl2
    have hil : i < 5 := by have := (List.getElem?_eq_some_iff.mp hn).1; omega
    have hnb := hb n (List.mem_of_getElem? hn)
    have hplen := hpv.length
    have hWl := hW.len
    have hDI := neN (hoff (D, _) (.head _))
    replace F' : Fr s.heap L' _ _ := F'
    replace N' : News s.heap L' _ _ := N'
    dsimp only [fLed] at N' F'
    clear lF' lN' F
    k_unmd
    k_fold
    k_steps
    all_goals (
      unfold Halt
      rename Fr _ _ _ _ => lF'
      rename News _ _ _ _ => lN'
      refine' while_st (σ := WSt) (fun c => [(I, oI), (D, listOf c.1.1.toArray c.1.2)]) (fun c => [(Str.ofString "row", .ref D), (Str.ofString "left", .int c.2.1.1 c.2.1.2), (Str.ofString "joins", .int c.2.2.1.1 c.2.2.1.2), (Str.ofString "rest", .int c.2.2.2.1 c.2.2.2.2)]) (WP (6 * (i : Int)) ((i : Int) + 1)) (fun c => c.2.2.1.1.toNat) ((_, _), (_, _), (_, _), (_, _)) lF' lN' ?hk ?hp0 ?turn2
      case hk => kst_all
      case hp0 => first | exact wp_start1 hpv hW ⟨hl0, by omega⟩ (mod3 _) (div_in hnb (by decide)) | exact wp_start2 hpv hW ⟨hl0, by omega⟩ (mod3 _) (div_in hnb (by decide))
      case turn2 =>
        intro c u h tk hWP F' N'
        obtain ⟨⟨qv, qn⟩, ⟨lf2, tl2⟩, ⟨jn, tj⟩, ⟨rs, tr⟩⟩ := c
        have hWP' := hWP
        obtain ⟨row2, b1, b2, b3, b4, b5, b6, b7, b8⟩ := hWP'
        dsimp only at b1 b2 b3 b4 b5 b6 b7 b8
        have hqlen := b1.length
        have hq2 := b2.len
        replace F' : Fr s.heap L' _ _ := F'
        replace N' : News s.heap L' _ _ := N'
        dsimp only at N' F'
        clear lF' lN'
        k_unmd
        k_fold
        k_steps
        all_goals (
          (repeat (k_unfold; (try dsimp only)))
          first
          | (dsimp only [WPost]
             refine WEnd.intro ((_, _), (_, _), (_, _), (_, _)) (by assumption) (by assumption) (fun _ h => h) (by kst_all) (by first | exact wp_turn1 hWP (by omega) (by omega) | exact wp_turn2 hWP (by omega) (by omega)) (by dsimp only; omega))
          | (dsimp only [FPost]
             refine FEnd.intro ((_, _), (_, _)) (by assumption) (by assumption) (fun _ h => h) (by intro p hp; rw [List.mem_singleton.mp hp]; exact hDI) (by kst_all) ⟨row2, b1, b2.more (by omega), by dsimp only; omega, by dsimp only; omega, fun _ => b3⟩)))
  case done =>
    intro c u h tk hP F' N'
    obtain ⟨⟨pv, pn⟩, lf, tl⟩ := c
    obtain ⟨row, hpv, hW, hl0, hl1, hl2⟩ := hP
    dsimp only at hpv hW hl0 hl1 hl2
    rw [hlen] at hW hl1 hl2
    replace F' : Fr s.heap L' _ _ := F'
    replace N' : News s.heap L' _ _ := N'
    dsimp only [fLed] at N' F'
    clear lF' lN' F
    dsimp only
    k_unmd
    k_steps
    unfold Halt
    rename Fr _ _ _ _ => lF'
    rename News _ _ _ _ => lN'
    refine' while_st (σ := (List Value × Nat) × (Int × Tok)) (fLed D) (fun c => [(Str.ofString "row", .ref D), (Str.ofString "left", .int c.2.1 c.2.2)]) (fun c => ∃ row, IntsAre c.1.1 row ∧ Way row c.2.1 (35 - c.2.1) ∧ 1 ≤ c.2.1) (fun c => c.2.1.toNat) ((_, _), (_, _)) lF' lN' ?hk ⟨row, hpv, hW.more (by dsimp only; omega), hl2 (by decide)⟩ ?turn2
    case hk => kst_all
    case turn2 =>
      intro c u h tk hP2 F' N'
      obtain ⟨⟨qv, qn⟩, lf2, tl2⟩ := c
      obtain ⟨row2, b1, b2, b3⟩ := hP2
      dsimp only at b1 b2 b3
      have hqlen := b1.length
      have hq2 := b2.len
      replace F' : Fr s.heap L' _ _ := F'
      replace N' : News s.heap L' _ _ := N'
      dsimp only [fLed] at N' F'
      clear lF' lN'
      k_unmd
      k_fold
      k_steps
      all_goals (
        (try dsimp only)
        (repeat (k_unfold; (try dsimp only)))
        first
        | (dsimp only [WPost]
           have h2 : 0 ≤ lf2.fmod 2 ∧ lf2.fmod 2 < 2 := ⟨Int.fmod_nonneg_of_pos _ (by decide), Int.fmod_lt_of_pos _ (by decide)⟩
           refine WEnd.intro ((_, _), (_, _)) (by assumption) (by assumption) (fun _ h => h) (by kst_all) ⟨_, ints_push b1, (b2.bin (by omega) (by omega)).more (by dsimp only; omega), by dsimp only; omega⟩ (by dsimp only; omega))
        | ((rename Fr _ _ _ _ => fF)
           (rename News _ _ _ _ => fN)
           refine ret_of hret fF ⟨D, qv, qn, row2, rfl, (fN _ (.head _)).2.2, (fN _ (.head _)).1, b1, ?_, b2.sym, by omega⟩
           have e1 : lf2 = 1 := by omega
           have h1 := b2.dep
           rw [e1] at h1
           exact h1))
end Ty

end TyFoPart
section TyTxPart
open PySem PySem.W PyProof.Rows PySem.Calls PySem.Spec
set_option maxRecDepth 100000
namespace Ty
theorem rst_TyTx : True := by
  w_top off
  k_with_none
  trivial
theorem eof_meets {prog : Program} {w : World} {x : Int} {t : Tok} : Meets prog w 59 1 [.int x t] (fun _ => True) (fun _ v _ => v = .bool (decide (x = 0))) := by
  intro mean mg mb dp un gd cn cs L ad ccd cl outer A₀ base h₀ m s Q E B F X T V hk hd hu hp hret
  have V1 := V.keeps F.keep
  have hroom : dp < recursionLimit := by omega
  refine enter (w := w) (binds := [(Str.ofString "x", .int x t)]) B F X T hk (by k_is) (by k_is) hroom (BindsTo.of_eq rfl) (locs rfl) ?_ (by decide)
  intro L' h₁ F' N' B' X' T'
  clear X T B V
  k_fold
  refine fold3 ?_
  intro Mv Av ev
  k_steps
  all_goals (
    (try dsimp only)
    (repeat (k_unfold; (try dsimp only)))
    exact ret_of hret (by assumption) rfl)
theorem nont_meets {prog : Program} {w : World} {x : Int} {t : Tok} : Meets prog w 52 1 [.int x t] (fun _ => True) (fun _ v _ => v = .bool (decide (x ≥ 256))) := by
  intro mean mg mb dp un gd cn cs L ad ccd cl outer A₀ base h₀ m s Q E B F X T V hk hd hu hp hret
  have V1 := V.keeps F.keep
  have hroom : dp < recursionLimit := by omega
  refine enter (w := w) (binds := [(Str.ofString "x", .int x t)]) B F X T hk (by k_is) (by k_is) hroom (BindsTo.of_eq rfl) (locs rfl) ?_ (by decide)
  intro L' h₁ F' N' B' X' T'
  clear X T B V
  k_fold
  refine fold3 ?_
  intro Mv Av ev
  k_steps
  all_goals (
    (try dsimp only)
    (repeat (k_unfold; (try dsimp only)))
    exact ret_of hret (by assumption) rfl)
theorem term_meets {prog : Program} {w : World} {x : Int} {t : Tok} : Meets prog w 45 1 [.int x t] (fun _ => True) (fun _ v _ => v = .bool (decide (x < 256))) := by
  intro mean mg mb dp un gd cn cs L ad ccd cl outer A₀ base h₀ m s Q E B F X T V hk hd hu hp hret
  have V1 := V.keeps F.keep
  have hroom : dp < recursionLimit := by omega
  refine enter (w := w) (binds := [(Str.ofString "x", .int x t)]) B F X T hk (by k_is) (by k_is) hroom (BindsTo.of_eq rfl) (locs rfl) ?_ (by decide)
  intro L' h₁ F' N' B' X' T'
  clear X T B V
  k_fold
  refine fold3 ?_
  intro Mv Av ev
  k_steps
  all_goals (
    (try dsimp only)
    (repeat (k_unfold; (try dsimp only)))
    exact ret_of hret (by assumption) rfl)
/-- the text of a symbol -/
def symText (x : Int) : List Nat :=
  if x = 256 then [108, 116, 59] else if x = 257 then [103, 116, 59] else if x = 258 then [97, 109, 112, 59] else if x = 19 then [38] else if x = 20 then [60] else if x = 21 then [62] else [126]
def rowText (row : List Int) : List Nat := row.flatMap symText
theorem symText_len (x : Int) : (symText x).length ≤ 4 := by
  unfold symText; repeat' split
  all_goals decide
theorem rowText_len : ∀ row : List Int, (rowText row).length ≤ 4 * row.length
  | [] => Nat.le_refl _
  | x :: r => by
    have h1 := symText_len x
    have h2 := rowText_len r
    show (symText x ++ rowText r).length ≤ 4 * (r.length + 1)
    rw [List.length_append]; omega
theorem rowText_snoc (row : List Int) (x : Int) : rowText (row ++ [x]) = rowText row ++ symText x := by
  simp [rowText]
theorem ln_TyTx_1 : True := by
  k_with_none
  k_with "execs cons" => (k_here; (with_reducible refine wpAny_execs_cons ?_); k_unmd; k_fold)
  k_with "room" => (first | omega | (simp only [recursionLimit, cLine] at *; omega))
  k_with "exec For Name Name cons nil" => (k_here; (rename Fr _ _ _ _ => lF9k); (with_unfolding_all refine For_halt lF9k (by exact rfl) (by exact rfl) ?_))
  k_with "call ref" => (k_here; k_dflt (first | refine Meets.use eof_meets (by k_asm) (by k_asm) (by k_asm) (by k_asm) (by k_asm) (by k_asm) rfl (by k_extra "room") (by k_extra "room") trivial ?_ | refine Meets.use nont_meets (by k_asm) (by k_asm) (by k_asm) (by k_asm) (by k_asm) (by k_asm) rfl (by k_extra "room") (by k_extra "room") trivial ?_ | refine Meets.use term_meets (by k_asm) (by k_asm) (by k_asm) (by k_asm) (by k_asm) (by k_asm) rfl (by k_extra "room") (by k_extra "room") trivial ?_); intro r9k h9k tk9k F9k N9k _ hp9k; subst hp9k; (try dsimp only); (try k_fold))
  trivial
abbrev strOf (l : List Nat) : Str := ⟨l.toArray⟩
theorem str_app {a b : List Nat} {s : Str} (h : s = strOf b) : strOf a ++ s = strOf (a ++ b) := by
  subst h
  refine Str.ext' ?_
  rw [Str.cps_append]
  simp
theorem with_led2 {P : Prop} {h₀ h : Heap} {L D D2 : Addr} {o o2 : Obj} {r : List (Addr × Obj)} (_N : News h₀ L h ((D, o) :: (D2, o2) :: r)) (k : ∀ D' D2' o' o2', D' = D → D2' = D2 → o' = o → o2' = o2 → P) : P := k D D2 o o2 rfl rfl rfl rfl
theorem led_item {prog : Program} {w : World} {A : Around} {E : Value → Shared → Prop} {s : Shared} {value slice : PySem.Expr} {a : Addr} {vs : List Value} {k : Int} {u : Tok} {v : Value} {n : Nat} {Q : Value → Shared → Prop} {h₀ : Heap} {L : Addr} {news : List (Addr × Obj)}
    (N : News h₀ L s.heap news) (hm : (a, listOf vs.toArray n) ∈ news) (h0 : 0 ≤ k) (hhi : k < 2 ^ 63) (hx : vs[k.toNat]? = some v) (h : Q v s)
    (hs : subscripted slice false (.ref a) (.int k u) = operate [.ref a, .int k u] (getItem (.ref a) (.int k u)) := by with_unfolding_all rfl) :
    wpAny (model prog w) A (subscriptTail value slice (.ref a) (.int k u)) Q E s :=
  have hl' : s.heap.IsList a vs.toArray := ⟨_, (N _ hm).1, rfl, n, rfl⟩
  tail_any hl'.typeIs slot_list_getitem.lookup (wpAny_getItem_list hl' h0 hhi (by simpa using hx) h) hs
abbrev signD : List (PyData × PyData) := [(.int 19, .str (Str.ofString "&")), (.int 20, .str (Str.ofString "<")), (.int 21, .str (Str.ofString ">")), (.int 31, .str (Str.ofString "~"))]
theorem ln_TyTx_2 : True := by
  k_with "subscriptTail Name BinOp ref int" => (k_here; refine led_item (by k_asm) (by k_mem) (by decide) (by decide) rfl ?_)
  k_with "subscriptTail Name Name ref int" => (k_here; k_dflt (refine item_intTab (D := signD) (TabAt.ofNews (by k_asm) (by k_mem) (by assumption) (by assumption) (by assumption)) (by rfl) ?_; intro v9k hv9k; dict_open hv9k; (try dsimp only)))
  trivial
set_option maxHeartbeats 8000000 in
theorem text_meets {prog : Program} {w : World} {rw : Addr} {vs : List Value} {ns : List Int} (hi : IntsAre vs (ns ++ [0])) (hs : ∀ x ∈ ns, IsSym x) (hlen : ns.length ≤ 100) :
    Meets prog w 122 2 [.ref rw] (fun h => h.IsList rw vs.toArray) (fun h v h' => ∃ t, v = .str (strOf (rowText ns)) t) := by
  intro mean mg mb dp un gd cn cs L ad ccd cl outer A₀ base h₀ m s Q E B F X T V hk hd hu hp hret
  have V1 := V.keeps F.keep
  have hroom : dp < recursionLimit := by omega
  refine enter (w := w) (binds := [(Str.ofString "row", .ref rw)]) B F X T hk (by k_is) (by k_is) hroom (BindsTo.of_eq rfl) (locs rfl) ?_ (by decide)
  intro L' h₁ F' N' B' X' T'
  clear X T B V
  k_fold
  refine fold3 ?_
  intro Mv Av ev
  k_steps
  unfold Halt
  rename Fr _ _ _ _ => lF'
  rename News _ _ _ _ => lN'
  rename Obj.IsDictOf _ _ _ => hd9
  rename PyProof.V.FlatPairs _ _ _ => hf9
  rename (_ == sysModules) = false => lo9
  refine with_led2 lN' (fun da ln od ol g1 g2 g3 g4 => ?_)
  subst g4
  rw [← g3] at hd9
  have lo : (da == sysModules) = false := by rw [g1]; exact lo9
  clear lo9
  refine' for_list (fun _ : Str × Tok => [(da, od), (ln, listOf [Value.str (Str.ofString "lt;") _, .str (Str.ofString "gt;") _, .str (Str.ofString "amp;") _].toArray 0)])
    (fun c => [(Str.ofString "names", .ref ln), (Str.ofString "signs", .ref da), (Str.ofString "text", .str c.1 c.2)])
    (fun i c => i ≤ ns.length ∧ c.1 = strOf (rowText (ns.take i))) (Str.ofString "", _) rfl hp hi lF' ?hN ?hk ⟨Nat.zero_le _, rfl⟩ ?turn ?done
  case hN => rw [g1, g2, g3]; exact lN'
  case hk => subst g1 g2; kst_all
  case turn =>
    intro i n t c u h tk2 I oI hn hoff hP F' N'
    obtain ⟨tx, tt⟩ := c
    obtain ⟨hin, htx⟩ := hP
    dsimp only at htx
    have hn9 : n = 0 ∧ i = ns.length ∨ IsSym n ∧ i < ns.length ∧ ns.take (i + 1) = ns.take i ++ [n] := by
      by_cases hlt : i < ns.length
      · rw [List.getElem?_append_left hlt] at hn
        exact .inr ⟨hs n (List.mem_of_getElem? hn), hlt, by rw [List.take_add_one, hn]; rfl⟩
      · have e : i = ns.length := by omega
        rw [e] at hn
        simp at hn
        exact .inl ⟨hn.symm, e⟩
    have hlen9 : tx.length ≤ 400 := by
      rw [htx]
      have h1 := rowText_len (ns.take i)
      have h2 : (ns.take i).length ≤ ns.length := by rw [List.length_take]; omega
      show (rowText (ns.take i)).toArray.size ≤ 400
      rw [List.size_toArray]; omega
    replace F' : Fr s.heap L' _ _ := F'
    replace N' : News s.heap L' _ _ := N'
    dsimp only at N' F'
    clear lF' lN' g1 g2 g3
    rcases hn9 with ⟨rfl, hi9⟩ | ⟨hsym, hi9, htake⟩
    · k_unmd
      k_fold
      k_steps
      all_goals (
        (try dsimp only)
        (repeat (k_unfold; (try dsimp only)))
        dsimp only [FPost]
        exact ret_of hret (by assumption) ⟨tt, by rw [htx, hi9, List.take_length]⟩)
    · unfold IsSym at hsym
      rcases hsym with rfl | rfl | rfl | rfl | rfl | rfl | rfl
      all_goals (
        k_unmd
        k_fold
        k_steps
        (repeat (k_unfold; (try dsimp only)))
        dsimp only [FPost]
        refine FEnd.intro (_, _) (by assumption) (by assumption) (fun _ h => h) hoff (by kst_all) ⟨by omega, ?_⟩
        rw [htake, rowText_snoc, htx]
        exact str_app (by decide +kernel))
  case done =>
    intro c u h tk hP F' N'
    obtain ⟨hin, -⟩ := hP
    rw [List.length_append, List.length_singleton] at hin
    omega
end Ty

end TyTxPart
section TyE0Part
open PySem PySem.W PyProof.Rows PySem.Calls PySem.Spec
set_option maxRecDepth 100000
namespace Ty
theorem rst_TyE0 : True := by
  w_top off
  k_with_none
  trivial
/-! one sign of a text by a text -/
def rep1 (c : Nat) (z : List Nat) (k : Nat) : List Nat := if k = c then z else [k]
def repl (c : Nat) (z : List Nat) (l : List Nat) : List Nat := l.flatMap (rep1 c z)
theorem repl_free {c : Nat} {z : List Nat} : ∀ l : List Nat, c ∉ l → repl c z l = l
  | [], _ => rfl
  | k :: r, h => by
    have h1 : k ≠ c := fun e => h (e ▸ List.mem_cons_self ..)
    have h2 : c ∉ r := fun m => h (List.mem_cons_of_mem _ m)
    show rep1 c z k ++ repl c z r = k :: r
    rw [repl_free r h2]
    unfold rep1
    rw [if_neg h1]; rfl
theorem repl_append (c : Nat) (z a b : List Nat) : repl c z (a ++ b) = repl c z a ++ repl c z b := by simp [repl]
theorem repl_one (c : Nat) (z : List Nat) : repl c z [c] = z := by simp [repl, rep1]
theorem repl_join (c : Nat) (z : List Nat) : ∀ parts : List Str, (∀ p ∈ parts, c ∉ p.cps.toList) → repl c z (Str.join ⟨#[c]⟩ parts).cps.toList = (Str.join ⟨z.toArray⟩ parts).cps.toList
  | [], _ => rfl
  | [p], h => repl_free _ (h p (List.mem_singleton.mpr rfl))
  | p :: q :: r, h => by
    have ih := repl_join c z (q :: r) fun a ha => h a (List.mem_cons_of_mem _ ha)
    show repl c z (p ++ ⟨#[c]⟩ ++ Str.join ⟨#[c]⟩ (q :: r)).cps.toList = (p ++ ⟨z.toArray⟩ ++ Str.join ⟨z.toArray⟩ (q :: r)).cps.toList
    simp only [Str.cps_append, Array.toList_append]
    rw [repl_append, repl_append, ih, repl_free _ (h p (List.mem_cons_self ..))]
    show p.cps.toList ++ repl c z [c] ++ _ = _
    rw [repl_one]
theorem replace_repl (c : Nat) (z l : List Nat) : Txt.replace (strOf l) ⟨#[c]⟩ (strOf z) = strOf (repl c z l) := by
  rw [StrLaws.replace_one]
  have h1 := repl_join c z (Txt.split (strOf l) ⟨#[c]⟩) (fun p hp => StrLaws.split_free (strOf l) c p hp)
  rw [StrLaws.join_split] at h1
  refine Str.ext' ?_
  exact (Array.toList_inj.mp (h1.symm.trans (by simp))).trans rfl
end Ty

end TyE0Part
section TyE1Part
open PySem PySem.W PyProof.Rows PySem.Calls PySem.Spec
set_option maxRecDepth 100000
namespace Ty
theorem rst_TyE1 : True := by
  w_top off
  k_with_none
  trivial
abbrev escScope : Scope := { kind := .function, names := [(Str.ofString "text", .local), (Str.ofString "TypeError", .globalImplicit), (Str.ofString "AttributeError", .globalImplicit), (Str.ofString "_raise_serialization_error", .globalImplicit)], isGenerator := false, isCoroutine := false, more := [] }
theorem ln_TyE1_1 : True := by
  k_with_none
  k_with "eval Name" => (refine nameX_L (by with_reducible assumption) (by with_reducible assumption) ?_ rfl rfl)
  k_with "eval Call Attribute" => (refine MethodCall_ ?_)
  trivial
set_option maxHeartbeats 4000000 in
theorem if_repl {prog : Program} {w : World} {A : Around} {E : Value → Shared → Prop} {s : Shared} {h₀ : Heap} {L a : Addr} {m : Str → Option Value} {news : List (Addr × Obj)} {cn : Str} {ccd : Value} {c : Nat} {z l : List Nat} {sc sw : Str} {t : Tok} {Q : Flow → Shared → Prop} {pl : Sem Bool} {p1 p2 p3 p4 p5 p6 p7 p8 p9 p10 p11 : Pos}
    (F : Fr h₀ L s.heap m) (N : News h₀ L s.heap news) (hm : m (Str.ofString "text") = some (.str (strOf l) t)) (hsc : sc = ⟨#[c]⟩) (hsw : sw = strOf z) (hne : (sc == sw) = false) (hz : z.length ≤ 14) (hl : l.length ≤ 100000)
    (he : eval (.Call (.Attribute (.Name (Str.ofString "text") p5) (Str.ofString "replace") p6) [.Constant (.str sc) 0 p7, .Constant (.str sw) 0 p8] [] p9) (envX cn escScope L a ccd []) = (do
      let ov ← eval (.Name (Str.ofString "text") p5) (envX cn escScope L a ccd [])
      standAt p6.atName
      let (f, first) ← holding [ov] (getMethod ov (Str.ofString "replace") pl)
      callWith p9 f first (backTo p9 (starEach [.Constant (.str sc) 0 p7, .Constant (.str sw) 0 p8] (envX cn escScope L a ccd []))) []))
    (h : ∀ h' tk t', Fr h₀ L h' (fun y => if y = Str.ofString "text" then some (.str (strOf (repl c z l)) t') else m y) → News h₀ L h' news → Q .next { s with heap := h', toks := tk }) :
    wpAny (model prog w) A (exec (.If (.Compare (.Constant (.str sc) 0 p1) [.In] [.Name (Str.ofString "text") p2] p3)
      [.Assign [.Name (Str.ofString "text") p4] (.Call (.Attribute (.Name (Str.ofString "text") p5) (Str.ofString "replace") p6) [.Constant (.str sc) 0 p7, .Constant (.str sw) 0 p8] [] p9) p10] [] p11) (envX cn escScope L a ccd [])) Q E s := by
  k_steps
  · have h1 := StrLaws.found_one (strOf l) c
    rw [← hsc, ‹(Builtin.Str.occurrences (strOf l) sc 0 (strOf l).length 1).isEmpty = true›] at h1
    have h2 : c ∉ l := by
      have := of_decide_eq_false h1.symm
      simpa [strOf] using this
    refine h s.heap (s.toks + 1) t ?_ N
    rw [repl_free l h2]
    have e : (fun y => if y = Str.ofString "text" then some (.str (strOf l) t) else m y) = m := by
      funext y
      by_cases hy : y = Str.ofString "text"
      · rw [if_pos hy, hy]; exact hm.symm
      · rw [if_neg hy]
    rw [e]; exact F
  · refine MethodCall_ ?_ he
    k_steps
    refine SC.replaceW (show s.toks + 1 ≠ 0 by omega) (show s.toks + 1 + 1 ≠ 0 by omega) (show s.toks + 1 ≠ s.toks + 1 + 1 by omega) hne (by show (l.toArray).size ≤ 1048576; simp only [List.size_toArray]; omega) (by rw [hsw]; show (z.toArray).size ≤ 14; simpa using hz) ?_
    intro t' k
    dsimp only
    k_steps
    refine h _ _ t' ?_ (by assumption)
    have e : Txt.replace (strOf l) sc sw = strOf (repl c z l) := by rw [hsc, hsw]; exact replace_repl ..
    rw [← e]; assumption
end Ty

end TyE1Part
section TyEsPart
open PySem PySem.W PyProof.Rows PySem.Calls PySem.Spec
set_option maxRecDepth 100000
namespace Ty
theorem rst_TyEs : True := by
  w_top off
  k_with_none
  trivial
def signs9 : List Nat := [108, 116, 59, 103, 97, 109, 112, 38, 60, 62, 126]
/-- what a hand makes of a sign -/
def spell (hand : Nat) (k : Nat) : List Nat :=
  if k = 38 then [38, 97, 109, 112, 59] else if k = 60 ∧ hand ≠ 2 then [38, 108, 116, 59] else if k = 62 ∧ hand ≠ 4 then [38, 103, 116, 59] else [k]
theorem flat_len {l : List Nat} {g : Nat → List Nat} (hl : l.length ≤ 400) (ha : ∀ k ∈ l, k ∈ signs9) (hg : ∀ k ∈ signs9, (g k).length ≤ 5) : (l.flatMap g).length ≤ 100000 := by
  have : ∀ l : List Nat, (∀ k ∈ l, k ∈ signs9) → (l.flatMap g).length ≤ 5 * l.length := by
    intro l
    induction l with
    | nil => intro _; exact Nat.le_refl _
    | cons k r ih =>
      intro h
      have h1 := ih fun x hx => h x (List.mem_cons_of_mem _ hx)
      have h2 := hg k (h k (List.mem_cons_self ..))
      rw [List.flatMap_cons, List.length_append, List.length_cons]; omega
  have := this l ha
  omega
theorem repl_flat (c : Nat) (z l : List Nat) (g : Nat → List Nat) : repl c z (l.flatMap g) = l.flatMap fun k => (g k).flatMap (rep1 c z) := by
  unfold repl; rw [List.flatMap_assoc]
theorem flat_same {l : List Nat} {g g' : Nat → List Nat} (ha : ∀ k ∈ l, k ∈ signs9) (h : ∀ k ∈ signs9, g k = g' k) : l.flatMap g = l.flatMap g' := by
  induction l with
  | nil => rfl
  | cons k r ih =>
    rw [List.flatMap_cons, List.flatMap_cons, h k (ha k (List.mem_cons_self ..)), ih fun x hx => ha x (List.mem_cons_of_mem _ hx)]
theorem ln_TyEs_1 : True := by
  k_with_none
  k_with "execs cons" => (k_here; (with_reducible refine wpAny_execs_cons ?_); k_unmd; k_fold)
  k_with "exec Try" => (k_here; refine wpAny_Try_except ?_)
  trivial
theorem if_flat {prog : Program} {w : World} {A : Around} {E : Value → Shared → Prop} {s : Shared} {h₀ : Heap} {L a : Addr} {m : Str → Option Value} {news : List (Addr × Obj)} {cn : Str} {ccd : Value} {c : Nat} {l0 : List Nat} {g : Nat → List Nat} {z : List Nat} {sc sw : Str} {t : Tok} {Q : Flow → Shared → Prop} {pl : Sem Bool} {p1 p2 p3 p4 p5 p6 p7 p8 p9 p10 p11 : Pos}
    (F : Fr h₀ L s.heap fun y => if y = Str.ofString "text" then some (.str (strOf (l0.flatMap g)) t) else m y) (N : News h₀ L s.heap news) (hl : l0.length ≤ 400) (ha : ∀ k ∈ l0, k ∈ signs9)
    (hsc : sc = ⟨#[c]⟩) (hsw : sw = strOf z) (hne : (sc == sw) = false) (hz : z.length ≤ 14) (hg : ∀ k ∈ signs9, (g k).length ≤ 5)
    (he : eval (.Call (.Attribute (.Name (Str.ofString "text") p5) (Str.ofString "replace") p6) [.Constant (.str sc) 0 p7, .Constant (.str sw) 0 p8] [] p9) (envX cn escScope L a ccd []) = (do
      let ov ← eval (.Name (Str.ofString "text") p5) (envX cn escScope L a ccd [])
      standAt p6.atName
      let (f, first) ← holding [ov] (getMethod ov (Str.ofString "replace") pl)
      callWith p9 f first (backTo p9 (starEach [.Constant (.str sc) 0 p7, .Constant (.str sw) 0 p8] (envX cn escScope L a ccd []))) []))
    (h : ∀ h' tk t', Fr h₀ L h' (fun y => if y = Str.ofString "text" then some (.str (strOf (l0.flatMap fun k => (g k).flatMap (rep1 c z))) t') else m y) → News h₀ L h' news → Q .next { s with heap := h', toks := tk }) :
    wpAny (model prog w) A (exec (.If (.Compare (.Constant (.str sc) 0 p1) [.In] [.Name (Str.ofString "text") p2] p3)
      [.Assign [.Name (Str.ofString "text") p4] (.Call (.Attribute (.Name (Str.ofString "text") p5) (Str.ofString "replace") p6) [.Constant (.str sc) 0 p7, .Constant (.str sw) 0 p8] [] p9) p10] [] p11) (envX cn escScope L a ccd [])) Q E s := by
  refine if_repl F N (if_pos rfl) hsc hsw hne hz (flat_len hl ha hg) he fun h' tk t' F' N' => h h' tk t' ?_ N'
  rw [repl_flat] at F'
  refine cast (congrArg (Fr h₀ L h') (funext fun y => ?_)) F'
  by_cases hy : y = Str.ofString "text"
  · rw [if_pos hy, if_pos hy]
  · rw [if_neg hy, if_neg hy, if_neg hy]
theorem ln_TyEs_2 : True := by
  k_with "exec If" => (k_here; (rename Fr _ _ _ _ => lF9k); (rename News _ _ _ _ => lN9k); refine if_flat lF9k lN9k (by assumption) (by assumption) rfl rfl (by decide +kernel) (by decide) (by decide +kernel) rfl ?_; clear lF9k lN9k; intro h99k tk99k t99k lF9k lN9k; (try dsimp only))
  trivial
theorem look1 (x : Str) (v : Value) : (fun y => List.lookup y [(x, v)].reverse) = fun y => if y = x then some v else none := by
  funext y
  show List.lookup y [(x, v)] = _
  by_cases h : y = x
  · subst h; simp [List.lookup]
  · rw [if_neg h]; simp [List.lookup, beq_eq_false_iff_ne.mpr h]
theorem flat_id : ∀ l : List Nat, (l.flatMap fun k => [k]) = l
  | [] => rfl
  | k :: r => by rw [List.flatMap_cons, flat_id r]; rfl
set_option maxHeartbeats 8000000 in
theorem esc_cdata {prog : Program} {w : World} {l : List Nat} {t : Tok} (hl : l.length ≤ 400) (ha : ∀ k ∈ l, k ∈ signs9) :
    Meets prog w 73 1 [.str (strOf l) t] (fun _ => True) (fun _ v _ => ∃ t', v = .str (strOf (l.flatMap (spell 0))) t') := by
  intro mean mg mb dp un gd cn cs L ad ccd cl outer A₀ base h₀ m s Q E B F X T V hk hd hu hp hret
  have V1 := V.keeps F.keep
  have hroom : dp < recursionLimit := by omega
  refine enter (w := w) (binds := [(Str.ofString "text", .str (strOf l) t)]) B F X T hk (by k_is) (by k_is) hroom (BindsTo.of_eq rfl) (locs rfl) ?_ (by decide)
  intro L' h₁ F' N' B' X' T'
  clear X T B V F
  k_fold
  refine fold3 ?_
  intro Mv Av ev
  rw [look1, show strOf l = strOf (l.flatMap fun k => [k]) from by rw [flat_id]] at F'
  k_steps
  (try dsimp only)
  (repeat (k_unfold; (try dsimp only)))
  exact ret_of hret (by assumption) ⟨_, congrArg (fun z => Value.str (strOf z) _) (flat_same ha (by decide +kernel))⟩
set_option maxHeartbeats 8000000 in
theorem esc_attrib {prog : Program} {w : World} {l : List Nat} {t : Tok} (hl : l.length ≤ 400) (ha : ∀ k ∈ l, k ∈ signs9) :
    Meets prog w 80 1 [.str (strOf l) t] (fun _ => True) (fun _ v _ => ∃ t', v = .str (strOf (l.flatMap (spell 1))) t') := by
  intro mean mg mb dp un gd cn cs L ad ccd cl outer A₀ base h₀ m s Q E B F X T V hk hd hu hp hret
  have V1 := V.keeps F.keep
  have hroom : dp < recursionLimit := by omega
  refine enter (w := w) (binds := [(Str.ofString "text", .str (strOf l) t)]) B F X T hk (by k_is) (by k_is) hroom (BindsTo.of_eq rfl) (locs rfl) ?_ (by decide)
  intro L' h₁ F' N' B' X' T'
  clear X T B V F
  k_fold
  refine fold3 ?_
  intro Mv Av ev
  rw [look1, show strOf l = strOf (l.flatMap fun k => [k]) from by rw [flat_id]] at F'
  k_steps
  (try dsimp only)
  (repeat (k_unfold; (try dsimp only)))
  exact ret_of hret (by assumption) ⟨_, congrArg (fun z => Value.str (strOf z) _) (flat_same ha (by decide +kernel))⟩
set_option maxHeartbeats 8000000 in
theorem esc_html {prog : Program} {w : World} {l : List Nat} {t : Tok} (hl : l.length ≤ 400) (ha : ∀ k ∈ l, k ∈ signs9) :
    Meets prog w 87 1 [.str (strOf l) t] (fun _ => True) (fun _ v _ => ∃ t', v = .str (strOf (l.flatMap (spell 2))) t') := by
  intro mean mg mb dp un gd cn cs L ad ccd cl outer A₀ base h₀ m s Q E B F X T V hk hd hu hp hret
  have V1 := V.keeps F.keep
  have hroom : dp < recursionLimit := by omega
  refine enter (w := w) (binds := [(Str.ofString "text", .str (strOf l) t)]) B F X T hk (by k_is) (by k_is) hroom (BindsTo.of_eq rfl) (locs rfl) ?_ (by decide)
  intro L' h₁ F' N' B' X' T'
  clear X T B V F
  k_fold
  refine fold3 ?_
  intro Mv Av ev
  rw [look1, show strOf l = strOf (l.flatMap fun k => [k]) from by rw [flat_id]] at F'
  k_steps
  (try dsimp only)
  (repeat (k_unfold; (try dsimp only)))
  exact ret_of hret (by assumption) ⟨_, congrArg (fun z => Value.str (strOf z) _) (flat_same ha (by decide +kernel))⟩
set_option maxHeartbeats 8000000 in
theorem esc_c14n {prog : Program} {w : World} {l : List Nat} {t : Tok} (hl : l.length ≤ 400) (ha : ∀ k ∈ l, k ∈ signs9) :
    Meets prog w 94 1 [.str (strOf l) t] (fun _ => True) (fun _ v _ => ∃ t', v = .str (strOf (l.flatMap (spell 3))) t') := by
  intro mean mg mb dp un gd cn cs L ad ccd cl outer A₀ base h₀ m s Q E B F X T V hk hd hu hp hret
  have V1 := V.keeps F.keep
  have hroom : dp < recursionLimit := by omega
  refine enter (w := w) (binds := [(Str.ofString "text", .str (strOf l) t)]) B F X T hk (by k_is) (by k_is) hroom (BindsTo.of_eq rfl) (locs rfl) ?_ (by decide)
  intro L' h₁ F' N' B' X' T'
  clear X T B V F
  k_fold
  refine fold3 ?_
  intro Mv Av ev
  rw [look1, show strOf l = strOf (l.flatMap fun k => [k]) from by rw [flat_id]] at F'
  k_steps
  (try dsimp only)
  (repeat (k_unfold; (try dsimp only)))
  exact ret_of hret (by assumption) ⟨_, congrArg (fun z => Value.str (strOf z) _) (flat_same ha (by decide +kernel))⟩
set_option maxHeartbeats 8000000 in
theorem esc_attrib_c14n {prog : Program} {w : World} {l : List Nat} {t : Tok} (hl : l.length ≤ 400) (ha : ∀ k ∈ l, k ∈ signs9) :
    Meets prog w 101 1 [.str (strOf l) t] (fun _ => True) (fun _ v _ => ∃ t', v = .str (strOf (l.flatMap (spell 4))) t') := by
  intro mean mg mb dp un gd cn cs L ad ccd cl outer A₀ base h₀ m s Q E B F X T V hk hd hu hp hret
  have V1 := V.keeps F.keep
  have hroom : dp < recursionLimit := by omega
  refine enter (w := w) (binds := [(Str.ofString "text", .str (strOf l) t)]) B F X T hk (by k_is) (by k_is) hroom (BindsTo.of_eq rfl) (locs rfl) ?_ (by decide)
  intro L' h₁ F' N' B' X' T'
  clear X T B V F
  k_fold
  refine fold3 ?_
  intro Mv Av ev
  rw [look1, show strOf l = strOf (l.flatMap fun k => [k]) from by rw [flat_id]] at F'
  k_steps
  (try dsimp only)
  (repeat (k_unfold; (try dsimp only)))
  exact ret_of hret (by assumption) ⟨_, congrArg (fun z => Value.str (strOf z) _) (flat_same ha (by decide +kernel))⟩
end Ty

end TyEsPart
section TyWrPart
open PySem PySem.W PyProof.Rows PySem.Calls PySem.Spec
set_option maxRecDepth 100000
namespace Ty
theorem rst_TyWr : True := by
  w_top off
  k_with_none
  trivial
theorem ln_TyWr_1 : True := by
  k_with_none
  k_with "room" => (first | omega | (simp only [recursionLimit, cLine] at *; omega))
  k_with "call ref" => (k_here; k_dflt (first | refine Meets.use (esc_cdata (by assumption) (by assumption)) (by k_asm) (by k_asm) (by k_asm) (by k_asm) (by k_asm) (by k_asm) rfl (by k_extra "room") (by k_extra "room") trivial ?_ | refine Meets.use (esc_attrib (by assumption) (by assumption)) (by k_asm) (by k_asm) (by k_asm) (by k_asm) (by k_asm) (by k_asm) rfl (by k_extra "room") (by k_extra "room") trivial ?_ | refine Meets.use (esc_html (by assumption) (by assumption)) (by k_asm) (by k_asm) (by k_asm) (by k_asm) (by k_asm) (by k_asm) rfl (by k_extra "room") (by k_extra "room") trivial ?_ | refine Meets.use (esc_c14n (by assumption) (by assumption)) (by k_asm) (by k_asm) (by k_asm) (by k_asm) (by k_asm) (by k_asm) rfl (by k_extra "room") (by k_extra "room") trivial ?_ | refine Meets.use (esc_attrib_c14n (by assumption) (by assumption)) (by k_asm) (by k_asm) (by k_asm) (by k_asm) (by k_asm) (by k_asm) rfl (by k_extra "room") (by k_extra "room") trivial ?_); intro r9k h9k tk9k F9k N9k _ hp9k; obtain ⟨t99k, hp9k⟩ := hp9k; subst hp9k; (try dsimp only); (try k_fold))
  trivial
set_option maxHeartbeats 8000000 in
theorem written_meets {prog : Program} {w : World} {l : List Nat} {t u : Tok} {k : Nat} (hk5 : k < 5) (hl : l.length ≤ 400) (ha : ∀ k ∈ l, k ∈ signs9) :
    Meets prog w 129 2 [.int (k : Int) u, .str (strOf l) t] (fun _ => True) (fun _ v _ => ∃ t', v = .str (strOf (l.flatMap (spell k))) t') := by
  intro mean mg mb dp un gd cn cs L ad ccd cl outer A₀ base h₀ m s Q E B F X T V hk hd hu hp hret
  have V1 := V.keeps F.keep
  have hroom : dp < recursionLimit := by omega
  refine enter (w := w) (binds := [(Str.ofString "hand", .int (k : Int) u), (Str.ofString "text", .str (strOf l) t)]) B F X T hk (by k_is) (by k_is) hroom (BindsTo.of_eq rfl) (locs rfl) ?_ (by decide)
  intro L' h₁ F' N' B' X' T'
  clear X T B V
  have h5 : k = 0 ∨ k = 1 ∨ k = 2 ∨ k = 3 ∨ k = 4 := by omega
  rcases h5 with rfl | rfl | rfl | rfl | rfl
  all_goals (
    k_unmd
    k_fold
    k_steps
    (try dsimp only)
    (repeat (k_unfold; (try dsimp only)))
    exact ret_of hret (by assumption) ⟨_, rfl⟩)
end Ty

end TyWrPart
section TyCsPart
open PySem PySem.W PyProof.Rows PySem.Calls PySem.Spec PyProof.Rows.LCg
set_option maxRecDepth 100000
namespace Ty
theorem rst_TyCs : True := by
  w_top off
  k_with_none
  trivial
section
variable {prog : Program} {w : World} {A : Around} {E : Value → Shared → Prop} {s : Shared} {h₀ : Heap} {L : Addr} {m : Str → Option Value} {env : Env}
/-- the source of a block is a text -/
def StrSrc (prog : Program) (w : World) (A : Around) (h₀ : Heap) (L : Addr) (m : Str → Option Value) (env : Env) (elt : PySem.Expr) (x : Str) (scope : Scope) (cl : List (Str × Addr)) (Fin : Shared → List Value → List (Addr × Obj) → Prop) (xv : Value) (s₁ : Shared) : Prop :=
  ∃ tx t news, xv = .str tx t ∧ A.handled = none ∧ Fr h₀ L s₁.heap m ∧ News h₀ L s₁.heap news ∧ tx.cps.size ≤ sizeLine ∧
    ∀ g : Heap, CompRest prog w A h₀ L m env elt x scope cl { s₁ with heap := g } (fun _ => True) (SignAt tx) (Fin { s₁ with heap := g }) tx.cps.size 0 [] news
theorem ListComp_str {elt iter : PySem.Expr} {x : Str} {px : Pos} {scope : Scope} {cl : List (Str × Addr)} {pos : Pos} {Q : Value → Shared → Prop} (_F : Fr h₀ L s.heap m)
    (hclos : closureFor scope env = pure cl) (hcell : ∀ y ∈ scope.names, y.2 ≠ .cell) (hkind : scope.kind = .function)
    (hnames : ∀ y ∈ scope.names, y.2 = .local → scope.names.lookup y.1 = some .local) (hx : scope.names.lookup x = some .local)
    (h : wpAny (model prog w) A (eval iter env) (StrSrc prog w A h₀ L m env elt x scope cl (fun s₂ => FinE h₀ L m s₂ Q)) E s)
    (hs : ∀ x, foldedSetIterable iter env x = pure x := by intro _; rfl) :
    wpAny (model prog w) A (eval (.ListComp elt [⟨.Name x px, iter, [], 0⟩] scope pos) env) Q E s := by
  rw [eval_ListComp]
  refine wpAny_comprehension_free (use := none) rfl hs hclos hkind hnames (wpAny_mono h (fun xv s₁ h₁ => ?_) fun _ _ e => e)
  obtain ⟨tx, t, news, rfl, hh, F, N, hsz, R⟩ := h₁
  have up : ∀ (oo : Obj) b o, s₁.heap.get? b = some o → (s₁.heap.push oo).get? b = some o := fun oo b o e => Heap.get?_push_of_some _ e
  have endQ : ∀ D C h tk m' ys news', Fr h₀ L h m → News h₀ L h ((D, lst ys) :: news') → Off1 D news' → h.Ns C m' → h₀.get? C = none → h₀.get? D = none → C ≠ L → D ≠ L → C ≠ D → (∀ p ∈ news', p.1 ≠ C) → ∀ g, FinE h₀ L m { s₁ with heap := g } Q ys news' →
      compPost (model prog w) A E none Q (.ref D) C (.ok .next) { s₁ with heap := h, toks := tk } := by
    intro D C h tk m' ys news' F' N' o1 hn hC₀ _ hCL _ hCD offC g fin
    refine ⟨m', hn, fun g2 hs2 => fin D g2 tk (F'.change hs2 hCL hC₀) (fun p hp => ?_) o1⟩
    refine ⟨hs2.extBut _ _ ?_ (N' p hp).1, (N' p hp).2⟩
    rcases List.mem_cons.mp hp with rfl | hp
    · exact Ne.symm hCD
    · exact offC p hp
  cases ha : tx.cps.all (· < 128)
  · refine wpAny_pyIter_wide ha ?_
    exact block_U (Walks.strWide hh s₁.heap.objs.size tx t) hsz (fun i h st => by obtain ⟨o, e, _⟩ := st; exact ⟨o, e⟩)
      (fun i g g' o nw st e e' _ _ _ => by obtain ⟨o', q, r⟩ := st; rw [e] at q; cases q; exact ⟨o, e', r⟩)
      hcell hkind hx ⟨_, Heap.get?_push_size _ rfl, rfl, rfl⟩ (fun b hb => by rw [List.mem_singleton.mp hb]; show _ < (s₁.heap.push _).objs.size; rw [Heap.size_push]; exact Nat.lt_succ_self _)
      (F.keeps (up _)) (N.grown (up _)) (Nat.ne_of_lt F.ns.lt) (next_is_new F) (fun p hp => Nat.ne_of_lt (Heap.lt_size (N p hp).1)) trivial (R _)
      fun D C h tk m' ys news' F' N' o1 hn a1 a2 a3 a4 a5 offC fin => endQ D C h tk m' ys news' F' N' o1 hn a1 a2 a3 a4 a5 offC _ fin
  · refine wpAny_pyIter_ascii ha ?_
    exact block_U (Walks.strAscii hh s₁.heap.objs.size tx t) hsz (fun i h st => by obtain ⟨o, e, _⟩ := st; exact ⟨o, e⟩)
      (fun i g g' o nw st e e' _ _ _ => by obtain ⟨o', q, r⟩ := st; rw [e] at q; cases q; exact ⟨o, e', r⟩)
      hcell hkind hx ⟨_, Heap.get?_push_size _ rfl, rfl, rfl⟩ (fun b hb => by rw [List.mem_singleton.mp hb]; show _ < (s₁.heap.push _).objs.size; rw [Heap.size_push]; exact Nat.lt_succ_self _)
      (F.keeps (up _)) (N.grown (up _)) (Nat.ne_of_lt F.ns.lt) (next_is_new F) (fun p hp => Nat.ne_of_lt (Heap.lt_size (N p hp).1)) trivial (R _)
      fun D C h tk m' ys news' F' N' o1 hn a1 a2 a3 a4 a5 offC fin => endQ D C h tk m' ys news' F' N' o1 hn a1 a2 a3 a4 a5 offC _ fin
/-- turns over the signs of a text, each to a text -/
theorem rest_signs {elt : PySem.Expr} {x : Str} {scope : Scope} {cl : List (Str × Addr)} {s : Shared} {Fin : List Value → List (Addr × Obj) → Prop} {news : List (Addr × Obj)} {l : List Nat} (g : Nat → List Nat)
    (turn : ∀ k t I oI C oC D m₂ ys h tk (E' : Value → Shared → Prop), k ∈ l → NsObj oC m₂ → m₂ x = some (.str ⟨#[k]⟩ t) → Fr h₀ L h m → News h₀ L h ((I, oI) :: (C, oC) :: (D, lst ys) :: news) → Off3 I C D news → ((@Ne Nat I C) ∧ (@Ne Nat I D) ∧ (@Ne Nat C D)) →
      wpAny (model prog w) A (eval elt (compEnvC scope cl C env)) (CompEnd h₀ L m { s with heap := h, toks := tk } I oI C oC D (lst ys) (fun _ => True) (fun y news' => news' = news ∧ ∃ t', y = .str (strOf (g k)) t')) E' { s with heap := h, toks := tk })
    (fin : ∀ ys, StrsAre ys (l.map fun k => strOf (g k)) → Fin ys news) : CompRest prog w A h₀ L m env elt x scope cl s (fun _ => True) (SignAt (strOf l)) Fin (strOf l).cps.size 0 [] news := by
  have key : ∀ (j i : Nat) (ys : List Value), i + j = l.length → StrsAre ys ((l.take i).map fun k => strOf (g k)) → CompRest prog w A h₀ L m env elt x scope cl s (fun _ => True) (SignAt (strOf l)) Fin j i ys news := by
    intro j
    induction j with
    | zero =>
      intro i ys hi hy
      have e : i = l.length := by omega
      subst e
      rw [List.take_length] at hy
      exact CompRest.zero (fin ys hy)
    | succ j ih =>
      intro i ys hi hy
      refine CompRest.succ ?_
      intro v I oI C oC D m₂ h tk E' hv hC hx F N off ne
      obtain ⟨k, t, hk, hv'⟩ := hv
      have hk' : l[i]? = some k := by simpa using hk
      rw [hv'] at hx
      refine wpAny_mono (turn k t I oI C oC D m₂ ys h tk E' (List.mem_of_getElem? hk') hC hx F N off ne) (fun y s₂ hq => ?_) fun _ _ e => e
      obtain ⟨h', tk', nw, e, F', N', off', hS, hn, t', hy'⟩ := hq
      rw [hn] at N' off'
      refine ⟨h', tk', news, e, F', N', off', hS, ?_⟩
      rw [hy']
      refine ih (i + 1) _ (by omega) ?_
      rw [List.take_add_one, hk']
      simpa using kct_snoc hy
  have e : (strOf l).cps.size = l.length := by simp
  rw [e]
  exact key l.length 0 [] (by omega) (by simp only [List.take_zero, List.map_nil]; exact .nil)
end
end Ty

end TyCsPart
section TySpPart
open PySem PySem.W PyProof.Rows PySem.Calls PySem.Spec PyProof.Rows.LCg
set_option maxRecDepth 100000
namespace Ty
theorem rst_TySp : True := by
  w_top off
  k_with_none
  trivial
theorem ln_TySp_1 : True := by
  k_with_none
  k_with "room" => (first | omega | (simp only [recursionLimit, cLine] at *; omega))
  trivial
theorem spell_len (hand k : Nat) : (spell hand k).length ≤ 5 := by unfold spell; repeat' split
                                                                   all_goals simp
theorem spelled_fits {l : List Nat} (hl : l.length ≤ 400) (hand : Nat) : ((l.map fun k => strOf (spell hand k)).map (·.length)).sum + (l.map fun k => strOf (spell hand k)).length * (Str.ofString "").length ≤ 16777216 := by
  have h1 : ∀ l : List Nat, ((l.map fun k => strOf (spell hand k)).map (·.length)).sum ≤ 5 * l.length := by
    intro l
    induction l with
    | nil => exact Nat.le_refl _
    | cons k r ih =>
      have h2 := spell_len hand k
      have h3 : (strOf (spell hand k)).length = (spell hand k).length := by show (spell hand k).toArray.size = _; simp
      rw [List.map_cons, List.map_cons, List.sum_cons, List.length_cons, h3]; omega
  have h2 := h1 l
  have h3 : (Str.ofString "").length = 0 := rfl
  rw [h3]; omega
theorem join_flat (g : Nat → List Nat) (l : List Nat) : Txt.join (Str.ofString "") (l.map fun k => strOf (g k)) = strOf (l.flatMap g) := by
  unfold Txt.join; rw [StrLaws.glued_eq_join]
  induction l with
  | nil => rfl
  | cons k r ih =>
    cases r with
    | nil => show strOf (g k) = strOf (g k ++ []); rw [List.append_nil]
    | cons k2 r =>
      show strOf (g k) ++ Str.ofString "" ++ Str.join (Str.ofString "") ((k2 :: r).map fun k => strOf (g k)) = strOf (g k ++ (k2 :: r).flatMap g)
      rw [ih]
      have e : strOf (g k) ++ Str.ofString "" = strOf (g k) := by
        refine Str.ext' ?_
        rw [Str.cps_append]
        show (g k).toArray ++ #[] = _
        simp
      rw [e]
      exact str_app rfl
theorem str_val {a b : Str} {t : Tok} (h : a = b) : Value.str a t = .str b t := by rw [h]
/-- three kinds of hands -/
theorem spell_kind {k : Nat} (h : k < 5) : ∃ kk, spell k = spell kk ∧ ((kk = 2 ∧ k = 2) ∨ (kk = 4 ∧ k = 4) ∨ (kk = 0 ∧ (k : Int) ≠ 2 ∧ (k : Int) ≠ 4)) := by
  have h1 : spell 1 = spell 0 := by funext x; unfold spell; simp
  have h3 : spell 3 = spell 0 := by funext x; unfold spell; simp
  have : k = 0 ∨ k = 1 ∨ k = 2 ∨ k = 3 ∨ k = 4 := by omega
  rcases this with rfl | rfl | rfl | rfl | rfl
  · exact ⟨0, rfl, .inr (.inr ⟨rfl, by decide, by decide⟩)⟩
  · exact ⟨0, h1, .inr (.inr ⟨rfl, by decide, by decide⟩)⟩
  · exact ⟨2, rfl, .inl ⟨rfl, rfl⟩⟩
  · exact ⟨0, h3, .inr (.inr ⟨rfl, by decide, by decide⟩)⟩
  · exact ⟨4, rfl, .inr (.inl ⟨rfl, rfl⟩)⟩
theorem ln_TySp_2 : True := by
  k_with "eval ListComp" => (k_here; k_dflt (refine ListComp_str (by k_asm) (by rfl) (by decide) (by rfl) (by decide) (by rfl) ?_))
  trivial
set_option maxHeartbeats 8000000 in
theorem spelled_meets {prog : Program} {w : World} {l : List Nat} {t u : Tok} {k : Nat} (hk5 : k < 5) (hl : l.length ≤ 400) (ha : ∀ k ∈ l, k ∈ signs9) :
    Meets prog w 134 2 [.int (k : Int) u, .str (strOf l) t] (fun _ => True) (fun _ v _ => ∃ t', v = .str (strOf (l.flatMap (spell k))) t') := by
  obtain ⟨kk, hkk, h5⟩ := spell_kind hk5
  rw [hkk]
  intro mean mg mb dp un gd cn cs L ad ccd cl outer A₀ base h₀ m s Q E B F X T V hk hd hu hp hret
  have V1 := V.keeps F.keep
  have hroom : dp < recursionLimit := by omega
  refine enterC (w := w) (binds := [(Str.ofString "hand", .int (k : Int) u), (Str.ofString "text", .str (strOf l) t)]) B F X T hk (by k_is) (by k_is) hroom (BindsTo.of_eq rfl) (by rfl) (by decide +kernel) ?_
  intro L' h₁ tk cells F' N' Y' B' X' T'
  obtain ⟨oc, rfl, hoc⟩ := CellsAre.one Y'
  clear X T B V
  obtain ⟨g, hg⟩ : ∃ g, g = spell kk := ⟨_, rfl⟩
  rcases h5 with ⟨rfl, rfl⟩ | ⟨rfl, rfl⟩ | ⟨rfl, hk2, hk4⟩
  all_goals (
    k_unmd
    k_fold
    k_steps
    all_goals (try first | exact absurd (by with_reducible assumption) hk2 | exact absurd (by with_reducible assumption) hk4)
    refine ⟨_, _, _, rfl, rfl, by k_asm, by k_asm, by rw [PySem.sizeLine_eq]; simp only [List.size_toArray]; omega, fun g9 => ?_⟩
    refine rest_signs g (fun k9 t9 I9 oI9 C9 oC9 D9 m9 ys9 h9 tk9 E9 hk9 hC9 hx9 F9 N9 off9 ne9 => ?_) (fun ys9 hy9 => ?_)
    · have hs9 := ha k9 hk9
      simp only [signs9, List.mem_cons, List.not_mem_nil, or_false] at hs9
      rcases hs9 with rfl | rfl | rfl | rfl | rfl | rfl | rfl | rfl | rfl | rfl | rfl
      all_goals (
        k_unmd
        k_steps
        exact CompEnd.intro (by assumption) (by assumption) _ (fun _ h => h) off9 trivial ⟨rfl, _, str_val (by rw [hg]; decide +kernel)⟩)
    · intro D' h' tk' F9 N9 o9
      subst hg
      k_unmd
      k_steps
      refine join_list (items := ys9.toArray) (News.isList (by k_asm) (.head _)) (by simpa using hy9) (spelled_fits hl _) (fun t' k' => ?_)
      rw [join_flat]
      (try dsimp only)
      (repeat (k_unfold; (try dsimp only)))
      exact ret_of hret (by assumption) ⟨_, rfl⟩)
end Ty

end TySpPart
section TyRpPart
open PySem PySem.W PyProof.Rows PySem.Calls PySem.Spec
set_option maxRecDepth 100000
namespace Ty
theorem rst_TyRp : True := by
  w_top off
  k_with_none
  trivial
open PySem.Builtin PySem.Builtin.Str PySem.StrLaws
/-! slices and places of a text -/
theorem clip_hi (i j : Int) (n : Nat) (hj : 0 ≤ j) : strSliceIndices (some i) (some j) 1 n = strSliceIndices (some i) (some (min j n)) 1 n := by
  unfold strSliceIndices
  have h1 : ¬ j < 0 := by omega
  have h2 : ¬ (min j (n : Int)) < 0 := by omega
  have h3 : max 0 (min j (n : Int)) = max 0 (min (min j (n : Int)) n) := by omega
  simp only [if_neg h1, if_neg h2, show (1 : Int) > 0 by decide, if_true]
  rw [← h3]
theorem slice_at (a b : List Nat) (k : Nat) : Txt.slice (strOf (a ++ b)) (some (a.length : Int)) (some ((a.length : Int) + (k : Int))) = strOf (b.take k) := by
  show sliceText _ _ _ = _
  have hl : (strOf (a ++ b)).length = a.length + b.length := by show (a ++ b).toArray.size = _; simp
  have e1 : sliceText (strOf (a ++ b)) (some (a.length : Int)) (some ((a.length : Int) + (k : Int))) = sliceText (strOf (a ++ b)) (some (a.length : Int)) (some ((a.length + min k b.length : Nat) : Int)) := by
    unfold sliceText
    rw [clip_hi _ _ _ (by omega), hl, show min ((a.length : Int) + (k : Int)) ((a.length + b.length : Nat) : Int) = ((a.length + min k b.length : Nat) : Int) by omega]
  rw [e1, sliceText_nat _ (by omega) (by rw [hl]; omega)]
  refine Str.ext' ?_
  show (List.take (a.length + min k b.length - a.length) (List.drop a.length (a ++ b).toArray.toList)).toArray = (b.take k).toArray
  have e2 : a.length + min k b.length - a.length = min k b.length := by omega
  rw [e2]
  simp [List.take_take]
theorem occ_full (s sub : Str) (hi k : Nat) : ∀ (l : List Nat) (fr : Nat), (forIn l ((#[k] : Array Nat), fr) (occBody s sub hi 1)).run.fst = #[k]
  | [], _ => by simp
  | a :: l, fr => by
    rw [List.forIn_cons]
    unfold occBody
    rw [if_neg (by simp)]
    exact occ_full s sub hi k l fr
theorem occ_at (s sub : Str) (hi : Nat) : ∀ (j lo n fr : Nat), j < n → fr ≤ lo → (∀ i, i < j → ¬ (lo + i + sub.length ≤ hi ∧ subAt s sub (lo + i) = true)) → (lo + j + sub.length ≤ hi ∧ subAt s sub (lo + j) = true) →
    (forIn (List.range' lo n) ((#[] : Array Nat), fr) (occBody s sub hi 1)).run.fst = #[lo + j]
  | 0, lo, n + 1, fr, _, hf, _, hh => by
    rw [List.range'_succ, List.forIn_cons]
    unfold occBody
    rw [if_pos ⟨⟨⟨by simp, hf⟩, hh.1⟩, hh.2⟩]
    exact occ_full s sub hi lo _ _
  | j + 1, lo, n + 1, fr, hj, hf, hno, hh => by
    rw [List.range'_succ, List.forIn_cons]
    unfold occBody
    rw [if_neg (fun h => hno 0 (by omega) ⟨h.1.2, h.2⟩)]
    have e : lo + (j + 1) = lo + 1 + j := by omega
    rw [e] at hh ⊢
    exact occ_at s sub hi j (lo + 1) n fr (by omega) (by omega) (fun i hi' => by have := hno (i + 1) (by omega); rwa [show lo + (i + 1) = lo + 1 + i by omega] at this) hh
theorem place_at (a w b : List Nat) (hw : 59 ∉ w) : occurrences (strOf (a ++ (w ++ 59 :: b))) ⟨#[59]⟩ a.length (strOf (a ++ (w ++ 59 :: b))).length 1 = [a.length + w.length] := by
  have hl : (strOf (a ++ (w ++ 59 :: b))).length = a.length + w.length + 1 + b.length := by show (a ++ (w ++ 59 :: b)).toArray.size = _; simp; omega
  rw [occ_eq, occ_at _ _ _ w.length a.length _ _ (by rw [hl]; omega) (Nat.le_refl _) ?_ ?_]
  · intro i hi h
    have h1 := (subAt_one _ 59 (a.length + i)).mp h
    have h2 : (a ++ (w ++ 59 :: b))[a.length + i]? = some 59 := by simpa using h1
    rw [List.getElem?_append_right (by omega), show a.length + i - a.length = i by omega, List.getElem?_append_left hi] at h2
    exact hw (List.mem_of_getElem? h2)
  · refine (subAt_one _ 59 (a.length + w.length)).mpr ?_
    show (a ++ (w ++ 59 :: b)).toArray.toList[a.length + w.length]? = some 59
    simp
theorem index_at {prog : Program} {w : World} {A : Around} {E : Value → Shared → Prop} {s : Shared} {t u v : Tok} {Q : Value → Shared → Prop} {a z b : List Nat} (hz : 59 ∉ z)
    (hq : Q (.int ((a.length + z.length : Nat) : Int) s.toks) { s with toks := s.toks + 1 }) : wpAny (model prog w) A (call (.builtin "str.index") [.str (strOf (a ++ (z ++ 59 :: b))) t, .str ⟨#[59]⟩ u, .int (a.length : Int) v]) Q E s := by
  refine call_gives F.slot_str_index (typeIs_str _ _ _) F.entry_str_index (F.args_str_index_3 _ _ _) (?_ : Gives _ (.int ((a.length + z.length : Nat) : Int))) hq
  have hf : fromIndex (strOf (a ++ (z ++ 59 :: b))).length (a.length : Int) = a.length := by
    unfold fromIndex
    have : ¬ ((a.length : Int) < 0) := by omega
    rw [if_neg this]; omega
  show Gives (match occurrences (strOf (a ++ (z ++ 59 :: b))) ⟨#[59]⟩ (fromIndex (strOf (a ++ (z ++ 59 :: b))).length (a.length : Int)) (min (strOf (a ++ (z ++ 59 :: b))).length (strOf (a ++ (z ++ 59 :: b))).length) 1 with | i :: _ => retInt i | [] => (do rule "str.index.not-found"; raiseError "ValueError" "substring not found")) _
  rw [Nat.min_self, hf, place_at a z b hz]
  exact .of_eq rfl
end Ty

end TyRpPart
section TyRtPart
open PySem PySem.W PyProof.Rows PySem.Calls PySem.Spec
set_option maxRecDepth 100000
namespace Ty
theorem rst_TyRt : True := by
  w_top off
  k_with_none
  trivial
/-- the tokens that the text of a token may be -/
def tokD : List (List Nat × Int) := [([33], 54), ([33, 61], 28), ([37], 24), ([37, 61], 40), ([38], 19), ([38, 61], 41), ([40], 7), ([41], 8), ([42], 16), ([42, 42], 35), ([42, 42, 61], 46), ([42, 61], 38), ([43], 14), ([43, 61], 36), ([44], 12), ([45], 15), ([45, 61], 37), ([45, 62], 51), ([46], 23), ([46, 46, 46], 52), ([47], 17), ([47, 47], 47), ([47, 47, 61], 48), ([47, 61], 39), ([58], 11), ([58, 61], 53), ([59], 13), ([60], 20), ([60, 60], 33), ([60, 60, 61], 44), ([60, 61], 29), ([61], 22), ([61, 61], 27), ([62], 21), ([62, 61], 30), ([62, 62], 34), ([62, 62, 61], 45), ([64], 49), ([64, 61], 50), ([91], 9), ([93], 10), ([94], 32), ([94, 61], 43), ([123], 25), ([124], 18), ([124, 61], 42), ([125], 26), ([126], 31)]
def tok (b : List Nat) : Option Int := tokD.lookup b
def datD (D : List (List Nat × Int)) : List (Str × KTD.Dat) := D.map fun p => (strOf p.1, .flat (.int p.2))
theorem strOf_inj {a b : List Nat} : strOf a = strOf b ↔ a = b := by
  constructor
  · intro h
    have := congrArg (fun s : Str => s.cps.toList) h
    simpa using this
  · rintro rfl; rfl
theorem keys_tok (b : List Nat) : ∀ D : List (List Nat × Int), KTD.inKeys (strOf b) (datD D) = (D.lookup b).isSome
  | [] => rfl
  | (a, n) :: D => by
    show (decide (strOf b = strOf a) || KTD.inKeys (strOf b) (datD D)) = _
    rw [keys_tok b D, List.lookup_cons]
    by_cases h : b = a
    · subst h; simp
    · have h1 : ¬ strOf b = strOf a := fun e => h (strOf_inj.mp e)
      rw [decide_eq_false h1, beq_eq_false_iff_ne.mpr h]; rfl
theorem exact_tab {w : World} {h : Heap} (X : (Ty.hd.heap_39 w.params).In h) : KTD.TextTab h 36 (datD tokD) := kt_text_in X (by kernel_rfl)
theorem exact_notin {prog : Program} {w : World} {A : Around} {E : Value → Shared → Prop} {s : Shared} {h₀ : Heap} {L : Addr} {m : Str → Option Value} {b : List Nat} {t : Tok} {Q : Value → Shared → Prop} (X : (Ty.hd.heap_39 w.params).In h₀) (F : Fr h₀ L s.heap m)
    (h : Q (.bool (!(tok b).isSome)) { s with toks := s.toks + 1 }) : wpAny (model prog w) A (compareOp .NotIn (.str (strOf b) t) (.ref 36)) Q E s := by
  refine KTD.notin_text (D := datD tokD) ⟨exact_tab X, F.keep⟩ ?_
  rw [keys_tok]; exact h
theorem each_tok {h₀ : Heap} {b : List Nat} {n : Int} {P : Value → Prop} (h : ∀ t, P (.int n t)) : ∀ D : List (List Nat × Int), D.lookup b = some n → KTD.EachL h₀ (strOf b) P (datD D)
  | [], e => nomatch e
  | (a, k) :: D, e => by
    show KTD.EachL h₀ (strOf b) P ((strOf a, .flat (.int k)) :: datD D)
    rw [List.lookup_cons] at e
    by_cases hb : b = a
    · subst hb
      rw [beq_self_eq_true] at e
      have e' : k = n := Option.some.inj e
      subst e'
      exact KTD.eachL_hit rfl (fun t => h t)
    · rw [beq_eq_false_iff_ne.mpr hb] at e
      exact KTD.eachL_miss (fun q => hb (strOf_inj.mp q)) (each_tok h D e)
theorem exact_item {prog : Program} {w : World} {A : Around} {E : Value → Shared → Prop} {s : Shared} {h₀ : Heap} {L : Addr} {m : Str → Option Value} {b : List Nat} {t : Tok} {n : Int} {Q : Value → Shared → Prop} {value slice : PySem.Expr} (X : (Ty.hd.heap_39 w.params).In h₀) (F : Fr h₀ L s.heap m)
    (hn : tok b = some n) (h : ∀ t, Q (.int n t) { s with toks := s.toks + 1 })
    (hs : subscripted slice false (.ref 36) (.str (strOf b) t) = operate [.ref 36, .str (strOf b) t] (getItem (.ref 36) (.str (strOf b) t)) := by with_unfolding_all rfl) :
    wpAny (model prog w) A (subscriptTail value slice (.ref 36) (.str (strOf b) t)) Q E s := by
  refine KTD.item_textA (D := datD tokD) ⟨exact_tab X, F.keep⟩ (by decide +kernel) ?_ (each_tok (n := n) h _ hn) hs
  rw [keys_tok]
  show (tok b).isSome = true
  rw [hn]; rfl
theorem exact_out {prog : Program} {w : World} {A : Around} {E : Value → Shared → Prop} {s : Shared} {h₀ : Heap} {L : Addr} {m : Str → Option Value} {b : List Nat} {t : Tok} {Q : Value → Shared → Prop} (X : (Ty.hd.heap_39 w.params).In h₀) (F : Fr h₀ L s.heap m) (hn : tok b = none)
    (h : Q (.bool true) { s with toks := s.toks + 1 }) : wpAny (model prog w) A (compareOp .NotIn (.str (strOf b) t) (.ref 36)) Q E s := exact_notin X F (by rw [hn]; exact h)
theorem exact_in {prog : Program} {w : World} {A : Around} {E : Value → Shared → Prop} {s : Shared} {h₀ : Heap} {L : Addr} {m : Str → Option Value} {b : List Nat} {t : Tok} {n : Int} {Q : Value → Shared → Prop} (X : (Ty.hd.heap_39 w.params).In h₀) (F : Fr h₀ L s.heap m) (hn : tok b = some n)
    (h : Q (.bool false) { s with toks := s.toks + 1 }) : wpAny (model prog w) A (compareOp .NotIn (.str (strOf b) t) (.ref 36)) Q E s := exact_notin X F (by rw [hn]; exact h)
/-! how wide the token is that a text begins with -/
def wid (b : List Nat) : Nat := if (tok (b.take 3)).isSome then 3 else if (tok (b.take 2)).isSome then 2 else if (tok (b.take 1)).isSome then 1 else 0
def num (b : List Nat) : Int := (tok (b.take (wid b))).getD 0
def sp (hand : Nat) (x : Int) : List Nat := (symText x).flatMap (spell hand)
def pg (hand : Nat) (row : List Int) : List Nat := row.flatMap (sp hand)
inductive Rd (hand : Nat) (x : Int) (r : List Int) (b : List Nat) : Prop
  | name (z : List Nat) (hb : b = z ++ 59 :: pg hand r) (hz : z = [108, 116] ∧ x = 256 ∨ z = [103, 116] ∧ x = 257 ∨ z = [97, 109, 112] ∧ x = 258) (hw : wid b = 0) (hn : num b = 0)
  | sign (z : List Nat) (hb : b = 38 :: (z ++ 59 :: pg hand r)) (hz : z = [108, 116] ∧ x = 20 ∨ z = [103, 116] ∧ x = 21 ∨ z = [97, 109, 112] ∧ x = 19) (hw : wid b = 1) (hn : num b = 19)
  | two (c : Nat) (r' : List Int) (hr : r = x :: r') (hb : b = c :: c :: pg hand r') (hz : x = 20 ∧ num b = 33 ∨ x = 21 ∧ num b = 34) (hw : wid b = 2 ∨ wid b = 3 ∧ r' = [])
  | one (c : Nat) (hb : b = c :: pg hand r) (hn : num b = x) (hx : x = 20 ∨ x = 21 ∨ x = 31) (h1 : b.take 2 ≠ [60, 60]) (h2 : b.take 2 ≠ [62, 62]) (hw : wid b = 1 ∨ wid b = 3 ∧ r = [])
theorem rd_two {hand : Nat} {x : Int} {c : Nat} (h : hand = 2 ∧ x = 20 ∧ c = 60 ∨ hand = 4 ∧ x = 21 ∧ c = 62) {r' : List Int} (hs : ∀ y ∈ r', IsSym y) : Rd hand x (x :: r') (pg hand (x :: x :: r')) := by
  cases r' with
  | nil =>
    rcases h with ⟨rfl, rfl, rfl⟩ | ⟨rfl, rfl, rfl⟩
    · exact .two 60 [] rfl (by kernel_rfl!) (.inl ⟨rfl, (by kernel_rfl!)⟩) (.inr ⟨(by kernel_rfl!), rfl⟩)
    · exact .two 62 [] rfl (by kernel_rfl!) (.inr ⟨rfl, (by kernel_rfl!)⟩) (.inr ⟨(by kernel_rfl!), rfl⟩)
  | cons y q =>
    have hy := hs y (List.mem_cons_self ..)
    unfold IsSym at hy
    rcases h with ⟨rfl, rfl, rfl⟩ | ⟨rfl, rfl, rfl⟩
    · rcases hy with rfl | rfl | rfl | rfl | rfl | rfl | rfl <;> exact .two 60 _ rfl (by kernel_rfl!) (.inl ⟨rfl, (by kernel_rfl!)⟩) (.inl (by kernel_rfl!))
    · rcases hy with rfl | rfl | rfl | rfl | rfl | rfl | rfl <;> exact .two 62 _ rfl (by kernel_rfl!) (.inr ⟨rfl, (by kernel_rfl!)⟩) (.inl (by kernel_rfl!))
theorem ne_two {a b c d : Nat} {q : List Nat} (h : ¬ (a = c ∧ b = d)) : a :: b :: q ≠ [c, d] := by
  intro e; injection e with e1 e2; injection e2 with e3 _; exact h ⟨e1, e3⟩
theorem ne_beq {a b : List Nat} (h : (a == b) = false) : a ≠ b := beq_eq_false_iff_ne.mp h
set_option maxHeartbeats 4000000 in
theorem rd_of {hand : Nat} (hh : hand < 5) {x : Int} {r : List Int} (hx : IsSym x) (hs : ∀ y ∈ r, IsSym y) : Rd hand x r (pg hand (x :: r)) := by
  have h5 : hand = 0 ∨ hand = 1 ∨ hand = 2 ∨ hand = 3 ∨ hand = 4 := by omega
  unfold IsSym at hx
  rcases hx with rfl | rfl | rfl | rfl | rfl | rfl | rfl <;> rcases h5 with rfl | rfl | rfl | rfl | rfl
  all_goals first
    | exact .name [108, 116] (by kernel_rfl!) (.inl ⟨rfl, rfl⟩) (by kernel_rfl!) (by kernel_rfl!)
    | exact .name [103, 116] (by kernel_rfl!) (.inr (.inl ⟨rfl, rfl⟩)) (by kernel_rfl!) (by kernel_rfl!)
    | exact .name [97, 109, 112] (by kernel_rfl!) (.inr (.inr ⟨rfl, rfl⟩)) (by kernel_rfl!) (by kernel_rfl!)
    | exact .sign [108, 116] (by kernel_rfl!) (.inl ⟨rfl, rfl⟩) (by kernel_rfl!) (by kernel_rfl!)
    | exact .sign [103, 116] (by kernel_rfl!) (.inr (.inl ⟨rfl, rfl⟩)) (by kernel_rfl!) (by kernel_rfl!)
    | exact .sign [97, 109, 112] (by kernel_rfl!) (.inr (.inr ⟨rfl, rfl⟩)) (by kernel_rfl!) (by kernel_rfl!)
    | skip
  all_goals (
    cases r with
    | nil => first
      | exact .one 60 (by kernel_rfl!) (by kernel_rfl!) (by decide) (by decide +kernel) (by decide +kernel) (.inr ⟨(by kernel_rfl!), rfl⟩)
      | exact .one 62 (by kernel_rfl!) (by kernel_rfl!) (by decide) (by decide +kernel) (by decide +kernel) (.inr ⟨(by kernel_rfl!), rfl⟩)
      | exact .one 126 (by kernel_rfl!) (by kernel_rfl!) (by decide) (by decide +kernel) (by decide +kernel) (.inr ⟨(by kernel_rfl!), rfl⟩)
    | cons y q =>
      have hy := hs y (List.mem_cons_self ..)
      have hq := fun z (hz : z ∈ q) => hs z (List.mem_cons_of_mem _ hz)
      unfold IsSym at hy
      rcases hy with rfl | rfl | rfl | rfl | rfl | rfl | rfl <;> first
        | exact .one 60 (by kernel_rfl!) (by kernel_rfl!) (by decide) (ne_beq (by kernel_rfl!)) (ne_beq (by kernel_rfl!)) (.inl (by kernel_rfl!))
        | exact .one 62 (by kernel_rfl!) (by kernel_rfl!) (by decide) (ne_beq (by kernel_rfl!)) (ne_beq (by kernel_rfl!)) (.inl (by kernel_rfl!))
        | exact .one 126 (by kernel_rfl!) (by kernel_rfl!) (by decide) (ne_beq (by kernel_rfl!)) (ne_beq (by kernel_rfl!)) (.inl (by kernel_rfl!))
        | exact rd_two (.inl ⟨rfl, rfl, rfl⟩) hq
        | exact rd_two (.inr ⟨rfl, rfl, rfl⟩) hq)
theorem tok_nil : tok [] = none := by decide
theorem wid_zero {b : List Nat} (h : ∀ k, 0 < k → k ≤ 3 → tok (b.take k) = none) : wid b = 0 := by
  unfold wid
  rw [h 3 (by decide) (by decide), h 2 (by decide) (by decide), h 1 (by decide) (by decide)]; rfl
theorem wid_at {b : List Nat} {k : Nat} {n : Int} (h1 : 1 ≤ k) (h3 : k ≤ 3) (hn : tok (b.take k) = some n) (h : ∀ j, k < j → j ≤ 3 → tok (b.take j) = none) : wid b = k ∧ num b = n := by
  have e : wid b = k := by
    unfold wid
    obtain rfl | rfl | rfl : k = 1 ∨ k = 2 ∨ k = 3 := by omega
    · rw [h 3 (by decide) (by decide), h 2 (by decide) (by decide), hn]; rfl
    · rw [h 3 (by decide) (by decide), hn]; rfl
    · rw [hn]; rfl
  refine ⟨e, ?_⟩
  unfold num
  rw [e, hn]; rfl
end Ty

end TyRtPart
section TyRuPart
open PySem PySem.W PyProof.Rows PySem.Calls PySem.Spec
set_option maxRecDepth 100000
namespace Ty
theorem rst_TyRu : True := by
  w_top off
  k_with_none
  trivial
section
variable {prog : Program} {w : World} {A : Around} {E : Value → Shared → Prop} {s : Shared} {h₀ : Heap} {L : Addr} {m : Str → Option Value} {news : List (Addr × Obj)} {P a b z : List Nat} {t ui uj u v : Tok} {i j : Int} {k : Nat}
theorem page_slice {value slice : PySem.Expr} {Q : Value → Shared → Prop} (F : Fr h₀ L s.heap m) (N : News h₀ L s.heap news) (hP : P = a ++ b) (hl : P.length ≤ 2000) (hi : i = (a.length : Int)) (hj : j = i + (k : Int))
    (h : ∀ h' t' tk, Fr h₀ L h' m → News h₀ L h' news → Q (.str (strOf (b.take k)) t') { s with heap := h', toks := tk })
    (hs : subscripted slice false (.str (strOf P) t) (.ref s.heap.objs.size) = operate [.ref s.heap.objs.size, .str (strOf P) t] (getItem (.str (strOf P) t) (.ref s.heap.objs.size)) := by with_unfolding_all rfl)
    (ht : ∀ r, letTemporaryGo value (.str (strOf P) t) r = pure () := by intro _; with_unfolding_all rfl) :
    wpAny (model prog w) A (subscriptTail value slice (.str (strOf P) t) (.ref s.heap.objs.size)) Q E { s with heap := s.heap.push { cls := .type "slice", data := .fields #[.int i ui, .int j uj, .none] } } := by
  refine slice_strN_ss F N (fun h' t' tk F' N' => ?_) hs ht (by rw [PySem.sizeLine_eq]; show P.toArray.size ≤ _; rw [List.size_toArray]; omega)
  subst hi hj hP
  rw [slice_at]
  exact h h' t' tk F' N'
def WordAt (P a z q : List Nat) : Prop := P = a ++ (z ++ 59 :: q)
theorem page_word {value slice : PySem.Expr} {Q : Value → Shared → Prop} (F : Fr h₀ L s.heap m) (N : News h₀ L s.heap news) (hP : WordAt P a z b) (hl : P.length ≤ 2000) (hi : i = (a.length : Int)) (hj : j = ((a.length + z.length : Nat) : Int))
    (h : ∀ h' t' tk, Fr h₀ L h' m → News h₀ L h' news → Q (.str (strOf z) t') { s with heap := h', toks := tk })
    (hs : subscripted slice false (.str (strOf P) t) (.ref s.heap.objs.size) = operate [.ref s.heap.objs.size, .str (strOf P) t] (getItem (.str (strOf P) t) (.ref s.heap.objs.size)) := by with_unfolding_all rfl)
    (ht : ∀ r, letTemporaryGo value (.str (strOf P) t) r = pure () := by intro _; with_unfolding_all rfl) :
    wpAny (model prog w) A (subscriptTail value slice (.str (strOf P) t) (.ref s.heap.objs.size)) Q E { s with heap := s.heap.push { cls := .type "slice", data := .fields #[.int i ui, .int j uj, .none] } } := by
  refine page_slice (k := z.length) F N hP hl hi (by omega) (fun h' t' tk F' N' => ?_) hs ht
  rw [List.take_left]
  exact h h' t' tk F' N'
theorem page_index {y : Str} {Q : Value → Shared → Prop} (hP : WordAt P a z b) (hz : 59 ∉ z) (hy : y = ⟨#[59]⟩) (hi : i = (a.length : Int))
    (hq : Q (.int ((a.length + z.length : Nat) : Int) s.toks) { s with toks := s.toks + 1 }) : wpAny (model prog w) A (call (.builtin "str.index") [.str (strOf P) t, .str y u, .int i v]) Q E s := by
  unfold WordAt at hP
  subst hP hy hi
  exact index_at hz hq
theorem page_len {Q : Value → Shared → Prop} (hl : P.length ≤ 2000) (h : Q (.int (P.length : Int) (s.toks + 1)) { s with toks := s.toks + 1 + 1 }) : wpAny (model prog w) A (call (.builtin "len") [.str (strOf P) t]) Q E s := by
  have e : (strOf P).length = P.length := by show P.toArray.size = _; simp
  refine len_str (by rw [e]; omega) ?_
  rw [e]; exact h
theorem index_words {D : Addr} {n j : Nat} {vs : List Value} {ys : List Str} {k : Str} {Q : Value → Shared → Prop} (N : News h₀ L s.heap news) (hm : (D, listOf vs.toArray n) ∈ news) (hi : StrsAre vs ys) (hy : ys[j]? = some k) (hno : ∀ i y, i < j → ys[i]? = some y → y ≠ k) (hz : ys.length ≤ 100)
    (h : Q (.int (j : Int) s.toks) { s with toks := s.toks + 1 }) : wpAny (model prog w) A (call (.builtin "list.index") [.ref D, .str k t]) Q E s := by
  have hlen : vs.length = ys.length := hi.len_eq
  have hj : j < ys.length := (List.getElem?_eq_some_iff.mp hy).1
  obtain ⟨u, hu⟩ := hi.at hy
  have hvj : vs[j]'(by omega) = .str k u := by
    have := List.getElem?_eq_some_iff.mp hu
    exact this.2
  refine call_meets PySem.F.slot_list_index ⟨_, (N _ hm).1, rfl⟩ PySem.F.entry_list_index (PySem.F.args_list_index_2 _ _)
    (MeetsSeq.list_index D vs.toArray n (.str k t) (isStrOf k) (fun y hy => eq_isStrOf k t hi y (by simpa using hy)) j (by rw [List.size_toArray]; omega) (by omega) ?_ ?_) ⟨(N _ hm).1, h⟩
  · show isStrOf k (vs.toArray[j]'_) = true
    rw [List.getElem_toArray, hvj]
    show (k == k) = true
    exact beq_self_eq_true k
  · intro i hi2 hlt
    have hi3 : i < ys.length := by omega
    obtain ⟨u2, hu2⟩ := hi.at (List.getElem?_eq_getElem hi3)
    have hvi : vs[i]'(by omega) = .str ys[i] u2 := (List.getElem?_eq_some_iff.mp hu2).2
    rw [List.getElem_toArray, hvi]
    show (ys[i] == k) = false
    exact beq_eq_false_iff_ne.mpr (hno i _ hlt (List.getElem?_eq_getElem hi3))
theorem index_words2 {D : Addr} {n : Nat} {vs : List Value} {ys : List Str} {k : Str} {Q : Value → Shared → Prop} (j : Nat) (N : News h₀ L s.heap news) (hm : (D, listOf vs.toArray n) ∈ news) (hi : StrsAre vs ys) (hy : ys[j]? = some k) (hno : ((ys.take j).all fun y => y != k) = true) (hz : ys.length ≤ 100)
    (h : Q (.int (j : Int) s.toks) { s with toks := s.toks + 1 }) : wpAny (model prog w) A (call (.builtin "list.index") [.ref D, .str k t]) Q E s := by
  refine index_words N hm hi hy (fun i y hlt e => ?_) hz h
  have h1 : y ∈ ys.take j := List.mem_of_getElem? (i := i) (by rw [List.getElem?_take_of_lt hlt]; exact e)
  have h2 := List.all_eq_true.mp hno y h1
  simpa using h2
theorem index_name {D : Addr} {n : Nat} {x : Int} {t1 t2 t3 : Tok} {Q : Value → Shared → Prop} (N : News h₀ L s.heap news) (hm : (D, listOf #[Value.str (Str.ofString "lt") t1, .str (Str.ofString "gt") t2, .str (Str.ofString "amp") t3] n) ∈ news)
    (hz : z = [108, 116] ∧ x = 256 ∨ z = [103, 116] ∧ x = 257 ∨ z = [97, 109, 112] ∧ x = 258) (h : Q (.int (x - 256) s.toks) { s with toks := s.toks + 1 }) : wpAny (model prog w) A (call (.builtin "list.index") [.ref D, .str (strOf z) t]) Q E s := by
  have hi : StrsAre [Value.str (Str.ofString "lt") t1, .str (Str.ofString "gt") t2, .str (Str.ofString "amp") t3] [Str.ofString "lt", Str.ofString "gt", Str.ofString "amp"] := .cons _ _ (.cons _ _ (.cons _ _ .nil))
  rcases hz with ⟨rfl, rfl⟩ | ⟨rfl, rfl⟩ | ⟨rfl, rfl⟩
  · exact index_words2 0 N hm hi (by kernel_rfl!) (by decide +kernel) (by decide) h
  · exact index_words2 1 N hm hi (by kernel_rfl!) (by decide +kernel) (by decide) h
  · exact index_words2 2 N hm hi (by kernel_rfl!) (by decide +kernel) (by decide) h
theorem in_two {D : Addr} {n : Nat} {q : List Nat} {t1 t2 : Tok} {Q : Value → Shared → Prop} (N : News h₀ L s.heap news) (hm : (D, listOf #[Value.str (Str.ofString "<<") t1, .str (Str.ofString ">>") t2] n) ∈ news) (h1 : q ≠ [60, 60]) (h2 : q ≠ [62, 62])
    (h : Q (.bool false) s) : wpAny (model prog w) A (compareOp .In (.str (strOf q) t) (.ref D)) Q E s := by
  refine SeqInW.in_listW (isStrOf (strOf q)) (fun y hy => eq_isStrOf (strOf q) t (.cons _ t1 (.cons _ t2 .nil)) y (by simpa using hy)) (PySem.IsL.isList (n := n) (N _ hm).1) ?_
  have e1 : ((Str.ofString "<<") == strOf q) = false := beq_eq_false_iff_ne.mpr fun e => h1 (strOf_inj.mp (e.symm.trans (by decide +kernel : Str.ofString "<<" = strOf [60, 60])))
  have e2 : ((Str.ofString ">>") == strOf q) = false := beq_eq_false_iff_ne.mpr fun e => h2 (strOf_inj.mp (e.symm.trans (by decide +kernel : Str.ofString ">>" = strOf [62, 62])))
  have e : (#[Value.str (Str.ofString "<<") t1, .str (Str.ofString ">>") t2]).any (isStrOf (strOf q)) = false := by
    rw [← Array.any_toList]
    show (((Str.ofString "<<") == strOf q) || (((Str.ofString ">>") == strOf q) || false)) = false
    rw [e1, e2]; rfl
  rw [e]; exact h
end
theorem pg_append (hand : Nat) (a b : List Int) : pg hand (a ++ b) = pg hand a ++ pg hand b := by simp [pg]
abbrev RSt := List Int × List Value × Nat × Int × Tok
def RdP (hand : Nat) (row : List Int) (c : RSt) : Prop :=
  IntsAre c.2.1 c.1 ∧ ∃ rest, row = c.1 ++ rest ∧ ((rest = [] ∧ ((pg hand row).length : Int) ≤ c.2.2.2.1 ∧ c.2.2.2.1 ≤ ((pg hand row).length : Int) + 3) ∨ (rest ≠ [] ∧ c.2.2.2.1 = ((pg hand c.1).length : Int)))
theorem rdp_go {hand : Nat} {row don r : List Int} {vs : List Value} {n : Nat} {p : Int} {tp : Tok} (hi : IntsAre vs don) (hrow : row = don ++ r)
    (hp : p + ((pg hand r).length : Int) = ((pg hand row).length : Int) ∨ (r = [] ∧ ((pg hand row).length : Int) ≤ p ∧ p ≤ ((pg hand row).length : Int) + 3)) : RdP hand row (don, vs, n, p, tp) := by
  refine ⟨hi, r, hrow, ?_⟩
  rcases hp with hp | hp
  · have e := congrArg List.length (pg_append hand don r)
    rw [List.length_append, ← hrow] at e
    by_cases h : r = []
    · subst h
      have e0 : (pg hand []).length = 0 := rfl
      exact .inl ⟨rfl, by dsimp only; omega, by dsimp only; omega⟩
    · exact .inr ⟨h, by dsimp only; omega⟩
  · exact .inl hp
theorem rdp_one {hand : Nat} {row don r : List Int} {vs : List Value} {n : Nat} {p x v : Int} {tp u : Tok} (hi : IntsAre vs don) (hrow : row = don ++ x :: r) (hv : v = x)
    (hp : p + ((pg hand r).length : Int) = ((pg hand row).length : Int) ∨ (r = [] ∧ ((pg hand row).length : Int) ≤ p ∧ p ≤ ((pg hand row).length : Int) + 3)) : RdP hand row (don ++ [x], vs ++ [.int v u], n, p, tp) := by
  subst hv
  exact rdp_go (ints_push hi) (by rw [hrow]; simp) hp
theorem rdp_two {hand : Nat} {row don r : List Int} {vs : List Value} {n : Nat} {p x v : Int} {tp u u2 : Tok} (hi : IntsAre vs don) (hrow : row = don ++ x :: x :: r) (hv : v = x)
    (hp : p + ((pg hand r).length : Int) = ((pg hand row).length : Int) ∨ (r = [] ∧ ((pg hand row).length : Int) ≤ p ∧ p ≤ ((pg hand row).length : Int) + 3)) : RdP hand row (don ++ [x, x], vs ++ [.int v u, .int v u2], n, p, tp) := by
  subst hv
  have h2 := ints_push (t := u2) (x := v) (ints_push (t := u) (x := v) hi)
  rw [List.append_assoc, List.append_assoc] at h2
  exact rdp_go h2 (by rw [hrow]; simp) hp
end Ty

end TyRuPart
section TyRdPart
open PySem PySem.W PyProof.Rows PySem.Calls PySem.Spec
set_option maxRecDepth 100000
namespace Ty
theorem rst_TyRd : True := by
  w_top off
  k_with_none
  trivial
theorem ln_TyRd_1 : True := by
  k_with_none
  k_with "execs cons" => (k_here; (with_reducible refine wpAny_execs_cons ?_); k_unmd; k_fold)
  k_with "room" => (first | omega | (simp only [recursionLimit, cLine] at *; omega))
  trivial
theorem halt_of2 {P : Prop} (h : Halt P) : P := h
theorem ln_TyRd_2 : True := by
  k_with "exec While Compare cons nil" => (refine halt_of2 ?_)
  k_with "exec While BoolOp cons nil" => (refine halt_of2 ?_)
  trivial
theorem with_led3 {P : Prop} {h₀ h : Heap} {L D D2 D3 : Addr} {o o2 o3 : Obj} {r : List (Addr × Obj)} (_N : News h₀ L h ((D, o) :: (D2, o2) :: (D3, o3) :: r)) (k : ∀ D' D2' D3' o2' o3', D' = D → D2' = D2 → D3' = D3 → o2' = o2 → o3' = o3 → P) : P := k D D2 D3 o2 o3 rfl rfl rfl rfl rfl
abbrev RLed (lr da ln : Addr) (od on : Obj) (c : RSt) : List (Addr × Obj) := [(lr, listOf c.2.1.toArray c.2.2.1), (da, od), (ln, on)]
theorem ln_TyRd_3 : True := by
  k_with "call builtin:len" => (refine page_len (by with_reducible assumption) ?_; (try dsimp only))
  k_with "subscriptTail Name Slice str ref" => (k_here; k_dflt (first | refine page_word (by k_asm) (by k_asm) (by with_reducible assumption) (by with_reducible assumption) (by first | rfl | omega) (by first | rfl | (push_cast; omega)) ?_ | refine page_slice (by k_asm) (by k_asm) (by with_reducible assumption) (by with_reducible assumption) (by first | rfl | omega) (by with_reducible rfl) ?_ | refine page_slice (k := 2) (by k_asm) (by k_asm) (by with_reducible assumption) (by with_reducible assumption) (by first | rfl | omega) (by rfl) ?_); intro h9k t9k tk9k F9k N9k; (try dsimp only))
  k_with "compareOp In str ref" => (k_here; k_dflt (refine in_two (by k_asm) (by k_mem) (by with_reducible assumption) (by with_reducible assumption) ?_); (try dsimp only))
  k_with "compareOp NotIn str ref" => (k_here; k_dflt (first | refine exact_out (by k_asm) (by k_asm) (by with_reducible assumption) ?_ | refine exact_in (by k_asm) (by k_asm) (by with_reducible assumption) ?_); (try dsimp only))
  k_with "subscriptTail Name Subscript ref str" => (k_here; k_dflt (refine exact_item (by k_asm) (by k_asm) (by with_reducible assumption) ?_; intro t9k; (try dsimp only)))
  k_with "call builtin:str.index" => (k_here; k_dflt (refine page_index (by with_reducible assumption) (by first | with_reducible assumption | decide) (by rfl) (by first | rfl | (push_cast; omega)) ?_; (try dsimp only)))
  k_with "call builtin:list.append" => (k_here; k_dflt (refine append_snoc (by k_asm) (by k_asm) (by k_upd) (by (simp only [PySem.sizeLine_eq]; omega)) ?_); intro h9k F9k N9k; (try dsimp only at N9k))
  k_with "call builtin:list.index" => (k_here; k_dflt (refine index_name (by k_asm) (by k_mem) (by with_reducible assumption) ?_); (try dsimp only))
  trivial
/-- what the table of the references says of a name -/
theorem sg_look {K : Type} {enc : K → PyData} {kvs : List (K × Value)} {D : List (PyData × PyData)} {z : List Nat} {x : Int} (_hf : PyProof.V.FlatPairs enc kvs D) (hz : z = [108, 116] ∧ x = 20 ∨ z = [103, 116] ∧ x = 21 ∨ z = [97, 109, 112] ∧ x = 19)
    (e : D = [(.str (Str.ofString "lt"), .int 20), (.str (Str.ofString "gt"), .int 21), (.str (Str.ofString "amp"), .int 19)] := by rfl) : PySem.Spec.lookup (.str (strOf z)) D = some (.int x) := by
  subst e
  rcases hz with ⟨rfl, rfl⟩ | ⟨rfl, rfl⟩ | ⟨rfl, rfl⟩ <;> kernel_rfl!
theorem ieq_no {a b : Int} (h : a ≠ b) : (a == b) = false := by simpa using h
theorem ieq_yes {a b : Int} (h : a = b) : (a == b) = true := by simpa using h
theorem ln_TyRd_4 : True := by
  k_with "ite" => (k_here; (with_reducible refine ite_pos (Or.resolve_left (by assumption) (by assumption)) ?_))
  trivial
theorem no_end {z : List Nat} {a b c : Int} {x : Int} (hz : z = [108, 116] ∧ x = a ∨ z = [103, 116] ∧ x = b ∨ z = [97, 109, 112] ∧ x = c) : 59 ∉ z := by
  rcases hz with ⟨rfl, _⟩ | ⟨rfl, _⟩ | ⟨rfl, _⟩ <;> decide
theorem put_len {done r row : List Int} {x : Int} (h : row = done ++ x :: r) : row.length - (done ++ [x]).length < row.length - done.length := by
  rw [h, List.length_append, List.length_append]; simp only [List.length_cons, List.length_nil]; omega
theorem put_len2 {done r row : List Int} {x : Int} (h : row = done ++ x :: x :: r) : row.length - (done ++ [x, x]).length < row.length - done.length := by
  rw [h, List.length_append, List.length_append]; simp only [List.length_cons, List.length_nil]; omega
theorem extend_two {prog : Program} {w : World} {A : Around} {E : Value → Shared → Prop} {s : Shared} {h₀ : Heap} {L D b : Addr} {m : Str → Option Value} {news news' : List (Addr × Obj)} {n n2 : Nat} {vs : List Value} {x y : Value} {Q : Value → Shared → Prop} (F : Fr h₀ L s.heap m) (N : News h₀ L s.heap news) (hb : (b, listOf #[x, y] n2) ∈ news)
    (U : Upd D (listOf vs.toArray n) (listOf (vs ++ [x, y]).toArray (n + 1)) news news') (hz : vs.length ≤ 100)
    (h : ∀ h', Fr h₀ L h' m → News h₀ L h' news' → Q .none { s with heap := h' }) : wpAny (model prog w) A (call (.builtin "list.extend") [.ref D, .ref b]) Q E s := by
  refine kl_extend (its := vs.toArray) (its2 := #[x, y]) F N hb (by simp) (by simp) U ?_ ?_ ?_ h
  · have e : Builtin.List.listTooLong (vs.toArray.size + #[x, y].size) = false := by
      unfold Builtin.List.listTooLong
      simp [PySem.sizeLine_eq]; omega
    rw [e]; simp
  · simp [PySem.sizeLine_eq]; omega
  · simp [PySem.sizeLine_eq]; omega
theorem ln_TyRd_5 : True := by
  k_with "call builtin:list.extend" => (k_here; k_dflt (refine extend_two (by k_asm) (by k_asm) (by k_mem) (by k_upd) (by omega) ?_); intro h9k F9k N9k; (try dsimp only at N9k))
  trivial
abbrev WLed (lr da ln : Addr) (od on : Obj) (vs : List Value) (n : Nat) (_ : Nat × Tok) : List (Addr × Obj) := [(lr, listOf vs.toArray n), (da, od), (ln, on)]
set_option maxHeartbeats 8000000 in
theorem read_meets {prog : Program} {w : World} {hand : Nat} {row : List Int} {t : Tok} (hh : hand < 5) (hs : ∀ x ∈ row, IsSym x) (hlen : row.length ≤ 40) (hpl : (pg hand row).length ≤ 2000) :
    Meets prog w 141 2 [.str (strOf (pg hand row)) t] (fun _ => True) (fun h v h' => ∃ D vs n, v = .ref D ∧ h.get? D = none ∧ h'.get? D = some (listOf vs.toArray n) ∧ IntsAre vs row) := by
  intro mean mg mb dp un gd cn cs L ad ccd cl outer A₀ base h₀ m s Q E B F X T V hk hd hu hp hret
  have V1 := V.keeps F.keep
  have hroom : dp < recursionLimit := by omega
  refine enter (w := w) (binds := [(Str.ofString "page", .str (strOf (pg hand row)) t)]) B F X T hk (by k_is) (by k_is) hroom (BindsTo.of_eq rfl) (locs rfl) ?_ (by decide)
  intro L' h₁ F' N' B' X' T'
  clear X T B V
  k_fold
  refine fold3 ?_
  intro Mv Av ev
  k_steps
  unfold Halt
  rename Fr _ _ _ _ => lF'
  rename News _ _ _ _ => lN'
  rename Obj.IsDictOf _ _ _ => hd9
  rename PyProof.V.FlatPairs _ _ _ => hf9
  rename (_ == sysModules) = false => lo9
  refine with_led3 lN' (fun lr da ln od on g1 g2 g3 g4 g5 => ?_)
  rw [← g4] at hd9
  subst g5
  have n1 : (@Ne Nat lr da) := by rw [g1, g2]; omega
  have n2 : (@Ne Nat lr ln) := by rw [g1, g3]; omega
  have lo : (da == sysModules) = false := by rw [g2]; exact lo9
  clear lo9
  refine' while_st (RLed lr da ln od (listOf #[Value.str (Str.ofString "lt") _, .str (Str.ofString "gt") _, .str (Str.ofString "amp") _] 0))
    (fun c => [(Str.ofString "page", .str (strOf (pg hand row)) t), (Str.ofString "names", .ref ln), (Str.ofString "signs", .ref da), (Str.ofString "row", .ref lr), (Str.ofString "place", .int c.2.2.2.1 c.2.2.2.2)])
    (RdP hand row) (fun c => row.length - c.1.length) ([], [], 0, 0, _) lF' ?hN ?hk ?hp ?turn
  case hN => rw [g1, g2, g3, g4]; exact lN'
  case hk => subst g1 g2 g3; kst_all
  case hp =>
    refine ⟨.nil, row, rfl, ?_⟩
    by_cases e : row = []
    · subst e; exact .inl ⟨rfl, Int.le_refl 0, (by decide : (0 : Int) ≤ 0 + 3)⟩
    · exact .inr ⟨e, rfl⟩
  case turn =>
    intro c u h tk2 hP F' N'
    obtain ⟨done, vs, n, place, tp⟩ := c
    obtain ⟨hi, rest, hrow, hpl2⟩ := hP
    dsimp only at hi hrow hpl2
    replace F' : Fr s.heap L' _ _ := F'
    replace N' : News s.heap L' _ _ := N'
    dsimp only [RLed] at N' F'
    clear lF' lN' g1 g2 g3 g4
    have hvl : vs.length ≤ 40 := by
      have e1 := hi.length
      have e2 := congrArg List.length hrow
      rw [List.length_append] at e2
      omega
    rcases hpl2 with ⟨rfl, hp1, hp2⟩ | ⟨hne, hp1⟩
    · k_unmd
      k_fold
      k_steps
      rw [List.append_nil] at hrow
      subst hrow
      (try dsimp only)
      (repeat (k_unfold; (try dsimp only)))
      (rename Fr _ _ _ _ => fF)
      (rename News _ _ _ _ => fN)
      exact ret_of hret fF ⟨lr, vs, n, rfl, (fN _ (.head _)).2.2, (fN _ (.head _)).1, hi⟩
    · obtain ⟨x, r, rfl⟩ : ∃ x r, rest = x :: r := by
        cases rest with
        | nil => exact absurd rfl hne
        | cons x r => exact ⟨x, r, rfl⟩
      have hPG : pg hand row = pg hand done ++ pg hand (x :: r) := by rw [hrow, pg_append]
      have hsx : IsSym x ∧ ∀ y ∈ r, IsSym y := ⟨hs x (by rw [hrow]; simp), fun y hy => hs y (by rw [hrow]; simp [hy])⟩
      have RD := rd_of hh hsx.1 hsx.2
      have hb1 : 1 ≤ (pg hand (x :: r)).length := by
        cases RD with
        | name z hb hz hw hn => rw [hb]; simp only [List.length_append, List.length_cons]; omega
        | sign z hb hz hw hn => rw [hb]; simp only [List.length_append, List.length_cons]; omega
        | two c r' hr hb hz hw => rw [hb]; simp only [List.length_append, List.length_cons]; omega
        | one c hb hn hx h1 h2 hw => rw [hb]; simp only [List.length_append, List.length_cons]; omega
      have hlt : place < ((pg hand row).length : Int) := by rw [hPG, List.length_append]; push_cast; omega
      k_unmd
      k_fold
      k_steps
      unfold Halt
      rename Fr _ _ _ _ => lF'
      rename News _ _ _ _ => lN'
      generalize hb : pg hand (x :: r) = b at hPG RD hb1
      refine' while_st (WLed lr da ln od (listOf #[Value.str (Str.ofString "lt") _, .str (Str.ofString "gt") _, .str (Str.ofString "amp") _] 0) vs n) (fun c => [(Str.ofString "page", .str (strOf (pg hand row)) t), (Str.ofString "names", .ref ln), (Str.ofString "signs", .ref da), (Str.ofString "row", .ref lr), (Str.ofString "place", .int place tp), (Str.ofString "width", .int (c.1 : Int) c.2)])
        (fun c => c.1 ≤ 3 ∧ ∀ k, c.1 < k → k ≤ 3 → tok (b.take k) = none) (fun c => c.1) (3, _) lF' lN' ?hk ⟨Nat.le_refl _, fun k a b => by dsimp only at a; omega⟩ ?turn2
      case hk => kst_all
      case turn2 =>
        intro c u h tk hP F' N'
        obtain ⟨wd, wt⟩ := c
        obtain ⟨hw3, hwn⟩ := hP
        dsimp only at hw3 hwn
        replace F' : Fr s.heap L' _ _ := F'
        replace N' : News s.heap L' _ _ := N'
        dsimp only [WLed] at N' F'
        clear lF' lN'
        by_cases hw0 : wd = 0
        · have e0 := wid_zero (b := b) fun k h1 h2 => hwn k (by omega) h2
          subst hw0
          cases RD with
          | sign z hbz hz hw hn => omega
          | two c r' hr hbz hz hw => omega
          | one c hbz hn hx h1 h2 hw => omega
          | name z hbz hz hw hn =>
            have hWA : WordAt (pg hand row) (pg hand done) z (pg hand r) := by unfold WordAt; rw [hPG, hbz]
            have hln : (pg hand row).length = (pg hand done).length + (z.length + (1 + (pg hand r).length)) := by rw [hPG, hbz]; simp only [List.length_append, List.length_cons]; omega
            have hzn := no_end hz
            k_unmd
            k_fold
            k_steps
            (repeat (k_unfold; (try dsimp only)))
            dsimp only [WPost]
            refine WEnd.intro (done ++ [x], vs ++ [_], n + 1, _, _) (by assumption) (by assumption) (fun _ h => h) (by kst_all) (rdp_one hi hrow (by omega) (.inl (by push_cast; omega))) (put_len hrow)
        · cases htok : tok (b.take wd) with
          | none =>
            k_unmd
            k_fold
            k_steps
            (repeat (k_unfold; (try dsimp only)))
            have ewd : ((wd : Int) - 1) = ((wd - 1 : Nat) : Int) := by omega
            dsimp only [WPost]
            (rename Fr _ _ _ _ => fF)
            rw [ewd] at fF
            refine WEnd.intro (wd - 1, _) fF (by assumption) (fun _ h => h) (by kst_all) ⟨by dsimp only; omega, fun k h1 h2 => ?_⟩ (by dsimp only; omega)
            dsimp only at h1
            by_cases e : k = wd
            · rw [e]; exact htok
            · exact hwn k (by omega) h2
          | some nn =>
            obtain ⟨ew, en⟩ := wid_at (by omega) hw3 htok hwn
            cases RD with
            | name z hbz hz hw hn => omega
            | sign z hbz hz hw hn =>
              obtain rfl : wd = 1 := by omega
              obtain rfl : nn = 19 := by omega
              obtain ⟨a', hla, hWA⟩ : ∃ a' : List Nat, a'.length = (pg hand done).length + 1 ∧ WordAt (pg hand row) a' z (pg hand r) :=
                ⟨pg hand done ++ [38], by simp, by unfold WordAt; rw [hPG, hbz]; simp⟩
              have hln : (pg hand row).length = (pg hand done).length + (1 + (z.length + (1 + (pg hand r).length))) := by rw [hPG, hbz]; simp only [List.length_append, List.length_cons]; omega
              have hzn := no_end hz
              have hlk := sg_look hf9 hz
              k_unmd
              k_fold
              k_steps
              (repeat (k_unfold; (try dsimp only)))
              dsimp only [WPost]
              refine WEnd.intro (done ++ [x], vs ++ [_], n + 1, _, _) (by assumption) (by assumption) (fun _ h => h) (by kst_all) (rdp_one hi hrow (by first | rfl | omega) (.inl (by push_cast; omega))) (put_len hrow)
            | two c r' hr hbz hz hw =>
              have hln : (pg hand row).length = (pg hand done).length + (2 + (pg hand r').length) := by rw [hPG, hbz]; simp only [List.length_append, List.length_cons]; omega
              subst hr
              have hnn : nn = 33 ∧ x = 20 ∨ nn = 34 ∧ x = 21 := by omega
              have hn34 : nn = 33 ∨ (nn == (34 : Int)) = true := by
                rcases hnn with h | h
                · exact .inl h.1
                · exact .inr (ieq_yes h.1)
              have i0 : (nn == (0 : Int)) = false := ieq_no (by omega)
              have i19 : (nn == (19 : Int)) = false := ieq_no (by omega)
              k_unmd
              k_fold
              k_steps
              all_goals (
                (repeat (k_unfold; (try dsimp only)))
                dsimp only [WPost]
                refine WEnd.intro (done ++ [x, x], vs ++ [_, _], n + 1, _, _) (by assumption) (by assumption) (by lcg_sub) (by kst_all) (rdp_two hi hrow (by omega) ?_) (put_len2 hrow)
                rcases hw with hw | ⟨hw, rfl⟩
                · left; omega
                · right
                  have e0 : (pg hand []).length = 0 := rfl
                  exact ⟨rfl, by omega, by omega⟩)
            | one c hbz hn hx h1 h2 hw =>
              have hln : (pg hand row).length = (pg hand done).length + (1 + (pg hand r).length) := by rw [hPG, hbz]; simp only [List.length_append, List.length_cons]; omega
              obtain rfl : nn = x := by omega
              have i0 : (nn == (0 : Int)) = false := ieq_no (by omega)
              have i19 : (nn == (19 : Int)) = false := ieq_no (by omega)
              have i33 : (nn == (33 : Int)) = false := ieq_no (by omega)
              have i34 : (nn == (34 : Int)) = false := ieq_no (by omega)
              k_unmd
              k_fold
              k_steps
              (repeat (k_unfold; (try dsimp only)))
              dsimp only [WPost]
              refine WEnd.intro (done ++ [nn], vs ++ [_], n + 1, _, _) (by assumption) (by assumption) (by lcg_sub) (by kst_all) (rdp_one hi hrow rfl ?_) (put_len hrow)
              rcases hw with hw | ⟨hw, rfl⟩
              · left; omega
              · right
                have e0 : (pg hand []).length = 0 := rfl
                exact ⟨rfl, by omega, by omega⟩
end Ty

end TyRdPart
section TyLpPart
open PySem PySem.W PyProof.Rows PySem.Calls PySem.Spec
set_option maxRecDepth 100000
namespace Ty
theorem rst_TyLp : True := by
  w_top off
  k_with_none
  trivial
theorem sym_signs (x : Int) : ∀ k ∈ symText x, k ∈ signs9 := by
  unfold symText
  repeat' split
  all_goals decide
theorem row_signs (row : List Int) : ∀ k ∈ rowText row, k ∈ signs9 := fun k hk => by
  obtain ⟨x, _, h⟩ := List.mem_flatMap.mp hk
  exact sym_signs x k h
theorem pg_flat (hand : Nat) (row : List Int) : (rowText row).flatMap (spell hand) = pg hand row := by
  unfold rowText pg sp
  rw [List.flatMap_assoc]
theorem pg_len {hand : Nat} {row : List Int} (h : row.length ≤ 40) : (pg hand row).length ≤ 2000 := by
  have h1 := rowText_len row
  have : ∀ l : List Nat, (l.flatMap (spell hand)).length ≤ 5 * l.length := by
    intro l
    induction l with
    | nil => exact Nat.le_refl _
    | cons k r ih =>
      have h2 := spell_len hand k
      rw [List.flatMap_cons, List.length_append, List.length_cons]; omega
  have := this (rowText row)
  rw [pg_flat] at this
  omega
theorem fm_in {x : Int} {n : Int} (hn : 0 < n) : 0 ≤ x.fmod n ∧ x.fmod n ≤ n - 1 := ⟨Int.fmod_nonneg_of_pos _ hn, by have := Int.fmod_lt_of_pos x hn; omega⟩
end Ty

end TyLpPart
section TyNPart
open PySem PySem.W PyProof.Rows PySem.Calls PySem.Spec
set_option maxRecDepth 100000
namespace Ty
theorem rst_TyN : True := by
  w_top off
  k_with_none
  trivial
def In8 (b : Int) (a0 a1 a2 a3 a4 a5 a6 a7 a8 : Int) : Prop := (0 ≤ a0 ∧ a0 ≤ b) ∧ (0 ≤ a1 ∧ a1 ≤ b) ∧ (0 ≤ a2 ∧ a2 ≤ b) ∧ (0 ≤ a3 ∧ a3 ≤ b) ∧ (0 ≤ a4 ∧ a4 ≤ b) ∧ (0 ≤ a5 ∧ a5 ≤ b) ∧ (0 ≤ a6 ∧ a6 ≤ b) ∧ (0 ≤ a7 ∧ a7 ≤ b) ∧ (0 ≤ a8 ∧ a8 ≤ b)
theorem ints_pop {vs : List Value} {ns : List Int} {n : Nat} (hi : IntsAre vs ns) (hl : ns.length = n + 1) : ∃ a t vs' ns', vs = .int a t :: vs' ∧ ns = a :: ns' ∧ IntsAre vs' ns' ∧ ns'.length = n := by
  cases hi with
  | nil => simp at hl
  | cons a t r => exact ⟨a, t, _, _, rfl, rfl, r, by simpa using hl⟩
theorem nine_ex {vs : List Value} {ns : List Int} {b : Int} (hi : IntsAre vs ns) (hn : Nine b ns) :
    ∃ a0 a1 a2 a3 a4 a5 a6 a7 a8 t0 t1 t2 t3 t4 t5 t6 t7 t8, vs = [Value.int a0 t0, .int a1 t1, .int a2 t2, .int a3 t3, .int a4 t4, .int a5 t5, .int a6 t6, .int a7 t7, .int a8 t8] ∧ In8 b a0 a1 a2 a3 a4 a5 a6 a7 a8 := by
  obtain ⟨hl, hb⟩ := hn
  obtain ⟨a0, t0, vs, ns, rfl, rfl, hi, hl⟩ := ints_pop hi hl
  obtain ⟨a1, t1, vs, ns, rfl, rfl, hi, hl⟩ := ints_pop hi hl
  obtain ⟨a2, t2, vs, ns, rfl, rfl, hi, hl⟩ := ints_pop hi hl
  obtain ⟨a3, t3, vs, ns, rfl, rfl, hi, hl⟩ := ints_pop hi hl
  obtain ⟨a4, t4, vs, ns, rfl, rfl, hi, hl⟩ := ints_pop hi hl
  obtain ⟨a5, t5, vs, ns, rfl, rfl, hi, hl⟩ := ints_pop hi hl
  obtain ⟨a6, t6, vs, ns, rfl, rfl, hi, hl⟩ := ints_pop hi hl
  obtain ⟨a7, t7, vs, ns, rfl, rfl, hi, hl⟩ := ints_pop hi hl
  obtain ⟨a8, t8, vs, ns, rfl, rfl, hi, hl⟩ := ints_pop hi hl
  obtain rfl : ns = [] := List.length_eq_zero_iff.mp hl
  cases hi
  refine ⟨a0, a1, a2, a3, a4, a5, a6, a7, a8, t0, t1, t2, t3, t4, t5, t6, t7, t8, rfl, hb _ ?_, hb _ ?_, hb _ ?_, hb _ ?_, hb _ ?_, hb _ ?_, hb _ ?_, hb _ ?_, hb _ ?_⟩ <;> simp
end Ty

end TyNPart
section TyCkPart
open PySem PySem.W PyProof.Rows PySem.Calls PySem.Spec PyProof.Rows.LCg
set_option maxRecDepth 100000
namespace Ty
theorem rst_TyCk : True := by
  w_top off
  k_with_none
  trivial
section
variable {prog : Program} {w : World} {A : Around} {E : Value → Shared → Prop} {s : Shared} {h₀ : Heap} {L : Addr} {m : Str → Option Value} {env : Env}
/-- the frame of a block that holds one cell -/
theorem new_env_k {M : Model} {scope : Scope} {cl : List (Str × Addr)} {x : Str} {Q : Env → Shared → Prop} (hce : ∀ b, cellsFrom b scope.names cl = (x, b) :: cl)
    (hpc : ∀ h : Heap, pushCells h scope.names = h.push { cls := .type "cell", data := .cell none })
    (h : Q { scope := scope, locals := s.heap.objs.size, globals := env.globals, cells := (x, s.heap.objs.size + 1) :: cl, qual := env.qual, func := none, code := env.code, frame := env.frame, builtins := env.builtins }
      { s with heap := (s.heap.push { cls := .type "dict", data := .dict #[] }).push { cls := .type "cell", data := .cell none } }) :
    wpAny M A (newFunctionEnv scope env.globals cl [] env.qual none .none (some env)) Q E s := by
  simp only [newFunctionEnv, Option.isSome_some, if_true]
  refine wpAny_bind (wpAny_alloc ?_)
  refine wpAny_bind (wpAny_layCells _ (fun name kind cells => by cases hkc : kind == NameKind.cell <;> simp [hkc]) _ _ _ _ ?_)
  rw [hpc, hce, show ({ s with heap := s.heap.push { cls := .type "dict", data := .dict #[] } } : Shared).heap.objs.size = s.heap.objs.size + 1 from Heap.size_push ..]
  exact wpAny_bind (wpAny_pure (wpAny_pure h))
/-- a turn of a block whose name is a cell -/
def KTurn (prog : Program) (w : World) (A : Around) (h₀ : Heap) (L : Addr) (m : Str → Option Value) (env : Env) (elt : PySem.Expr) (x : Str) (scope : Scope) (cl : List (Str × Addr)) (news : List (Addr × Obj)) (a : Int) (n : Nat)
    (P : Nat → List Value → Prop) (s : Shared) : Prop :=
  ∀ i t I oI C oC D K oK ys h tk (E' : Value → Shared → Prop), i < n → P i ys → oK.data = .cell (some (.int (a + (i : Int)) t)) → Fr h₀ L h m → News h₀ L h ((I, oI) :: (C, oC) :: (D, lst ys) :: (K, oK) :: news) →
    wpAny (model prog w) A (eval elt (compEnvC scope ((x, K) :: cl) C env)) (fun y s' => ∃ h' tk', s' = { s with heap := h', toks := tk' } ∧ Fr h₀ L h' m ∧ News h₀ L h' ((I, oI) :: (C, oC) :: (D, lst ys) :: (K, oK) :: news) ∧ P (i + 1) (ys ++ [y])) E' { s with heap := h, toks := tk }
theorem block_K {elt iter : PySem.Expr} {x : Str} {px : Pos} {scope : Scope} {cl : List (Str × Addr)} {pos : Pos} {s₂ : Shared} {I : Addr} {a : Int} {n : Nat} {news : List (Addr × Obj)} {P : Nat → List Value → Prop} {RR : Value → Addr → Result → Shared → Prop}
    (hh : A.handled = none) (hsz : n ≤ sizeLine) (hce : ∀ b, cellsFrom b scope.names cl = (x, b) :: cl) (hpc : ∀ h : Heap, pushCells h scope.names = h.push { cls := .type "cell", data := .cell none })
    (hkind : scope.kind = .function) (hx : ∀ C K, (compEnvC scope ((x, K) :: cl) C env).kindOf x = some .cell)
    (hst : IsRangeIter s₂.heap I (a + ((0 : Nat) : Int) * 1) ((n : Int) - ((0 : Nat) : Int)) 1) (F : Fr h₀ L s₂.heap m) (N : News h₀ L s₂.heap news) (hIL : I ≠ L) (hI₀ : h₀.get? I = none) (off : ∀ p ∈ news, p.1 ≠ I)
    (hP : P 0 []) (T : KTurn prog w A h₀ L m env elt x scope cl news a n P s₂)
    (hRR : ∀ D C h tk m' ys, Fr h₀ L h m → News h₀ L h ((D, lst ys) :: news) → Off1 D news → h.Ns C m' → h₀.get? C = none → C ≠ L → D ≠ C → (∀ p ∈ news, p.1 ≠ C) → P n ys → RR (.ref D) C (.ok .next) { s₂ with heap := h, toks := tk }) :
    wpAny (model prog w) A (newList []) (fun acc s₃ => wpAny (model prog w) A (newFunctionEnv scope env.globals cl [] env.qual none .none (some env)) (fun cenv s₄ =>
      codeAny (model prog w) A (.compStart (.ListComp elt [⟨.Name x px, iter, [], 0⟩] scope pos) 0 (.ref I) acc { cenv with scope := relabel scope env }) (RR acc cenv.locals) s₄) E s₃) E s₂ := by
  refine wpAny_newObj_type (new_env_k hce hpc ?_)
  dsimp only
  have fresh₀ : ∀ b, s₂.heap.objs.size ≤ b → h₀.get? b = none := fun b hb => Heap.get?_none_of_le (Nat.le_trans (Nat.le_of_lt (Nat.lt_of_le_of_lt F.above F.ns.lt)) hb)
  have hL : L < s₂.heap.objs.size := F.ns.lt
  have hI : I < s₂.heap.objs.size := Heap.lt_size hst
  have hNw : ∀ p ∈ news, p.1 < s₂.heap.objs.size := fun p hp => Heap.lt_size (N p hp).1
  generalize hH1 : s₂.heap.push { cls := .type "list", dict := none, data := .seq ([] : List Value).toArray } = H1
  have z1 : H1.objs.size = s₂.heap.objs.size + 1 := by rw [← hH1, Heap.size_push]
  have k1 : ∀ b o, s₂.heap.get? b = some o → H1.get? b = some o := fun b o e => hH1 ▸ Heap.get?_push_of_some _ e
  have gD1 : H1.get? s₂.heap.objs.size = some (lst []) := hH1 ▸ Heap.get?_push_size _ rfl
  generalize hH2 : H1.push { cls := .type "dict", data := .dict #[] } = H2
  have z2 : H2.objs.size = s₂.heap.objs.size + 2 := by rw [← hH2, Heap.size_push, z1]
  have k2 : ∀ b o, H1.get? b = some o → H2.get? b = some o := fun b o e => hH2 ▸ Heap.get?_push_of_some _ e
  have nC2 : H2.Ns H1.objs.size fun _ => none := hH2 ▸ Heap.Ns.new H1 _
  generalize hH3 : H2.push { cls := .type "cell", data := .cell none } = H3
  have k3 : ∀ b o, H2.get? b = some o → H3.get? b = some o := fun b o e => hH3 ▸ Heap.get?_push_of_some _ e
  have gK3 : H3.get? H2.objs.size = some { cls := .type "cell", data := .cell none } := hH3 ▸ Heap.get?_push_size _ rfl
  have gD3 := k3 _ _ (k2 _ _ gD1)
  have nC3 := nC2.keeps k3
  have old : ∀ b o, s₂.heap.get? b = some o → H3.get? b = some o := fun b o e => k3 _ _ (k2 _ _ (k1 _ _ e))
  rw [show H1.objs.size + 1 = H2.objs.size by rw [z1, z2]]
  clear hH1 hH2 hH3 k1 k2 k3 gD1 nC2
  have hD₀ := fresh₀ _ (Nat.le_refl s₂.heap.objs.size)
  have hC₀ := fresh₀ H1.objs.size (by omega)
  have hK₀ := fresh₀ H2.objs.size (by omega)
  have qD : ∀ b, b < s₂.heap.objs.size → b ≠ s₂.heap.objs.size := fun b hb => Nat.ne_of_lt hb
  have qC : ∀ b, b < s₂.heap.objs.size → b ≠ H1.objs.size := fun b hb => Nat.ne_of_lt (by omega)
  have qK : ∀ b, b < s₂.heap.objs.size → b ≠ H2.objs.size := fun b hb => Nat.ne_of_lt (by omega)
  have qDC : s₂.heap.objs.size ≠ H1.objs.size := Nat.ne_of_lt (by omega)
  have qDK : s₂.heap.objs.size ≠ H2.objs.size := Nat.ne_of_lt (by omega)
  have qCK : H1.objs.size ≠ H2.objs.size := Nat.ne_of_lt (by omega)
  generalize hDd : s₂.heap.objs.size = D at *
  generalize hCc : H1.objs.size = C at *
  generalize hKk : H2.objs.size = K at *
  clear hDd hCc hKk z1 z2
  have W := range_walks (prog := prog) (w := w) (I := I) hh a n
  have loop : ∀ s₃ : Shared, s₃ = { s₂ with heap := H3 } →
      codeAny (model prog w) A (.compLoop (.ListComp elt [⟨.Name x px, iter, [], 0⟩] scope pos) 0 (.ref I) (.ref D) (compEnvC scope ((x, K) :: cl) C env)) (RR (.ref D) C) s₃ := by
    rintro s₃ rfl
    refine codeAny_compLoop_tests
      (fun j s' => ∃ h' tk i ys m' oK v, s' = { s₂ with heap := h', toks := tk } ∧ i ≤ n ∧ j = n + 1 - i ∧ ys.length = i ∧ IsRangeIter h' I (a + (i : Nat) * 1) ((n : Int) - (i : Nat)) 1 ∧ Fr h₀ L h' m ∧ h'.Ns C m' ∧ h'.get? K = some oK ∧ oK.data = .cell v ∧
        News h₀ L h' ((D, lst ys) :: news) ∧ P i ys) ?_ (n + 1)
      ⟨H3, _, 0, [], _, _, none, rfl, Nat.zero_le _, rfl, rfl, old _ _ hst, F.keeps old, nC3, gK3, rfl, fun p hp => ?_, hP⟩
    · rintro j s' ⟨h', tk, i, ys, m', oK, v₀, rfl, hi, rfl, hyl, hst', F', hn', gK', dK', N', hP'⟩
      have offI : ∀ p ∈ (D, lst ys) :: news, p.1 ≠ I := fun p hp => by
        rcases List.mem_cons.mp hp with rfl | hp
        · exact Ne.symm (qD _ hI)
        · exact off p hp
      by_cases hlt : i < n
      · refine W.item i _ _ _ hlt hst' fun v h₂ tk₂ hPv hst₂ hk₂ => ?_
        have gK₂ : h₂.get? K = some oK := hk₂ _ _ (by simpa using Ne.symm (qK _ hI)) gK'
        have nC₂ : h₂.Ns C m' := hn'.at' fun o e => hk₂ _ o (by simpa using Ne.symm (qC _ hI)) e
        have N₂ : News h₀ L h₂ ((D, lst ys) :: news) := news_but N' hk₂ offI
        have F₂ : Fr h₀ L h₂ m := fr_but F' hk₂ (Ne.symm hIL) hI₀
        refine wpAny_assign_Name (wpAny_storeName_cell hkind (hx C K) (by simp [compEnvC]) ⟨oK, gK₂, dK'⟩ fun h₃ hc₃ hs₃ => ?_)
        refine wpAny_tests_nil ?_
        simp only [if_true]
        obtain ⟨oK₃, gK₃, dK₃⟩ := hc₃
        obtain ⟨t, rfl⟩ := hPv
        have hst₃ : IsRangeIter h₃ I (a + ((i + 1 : Nat) : Int) * 1) ((n : Int) - ((i + 1 : Nat) : Int)) 1 := hs₃.extBut _ _ (qK _ hI) hst₂
        have F₃ : Fr h₀ L h₃ m := F₂.change hs₃ (Ne.symm (qK _ hL)) hK₀
        have nC₃ : h₃.Ns C m' := nC₂.sameBut hs₃ qCK
        obtain ⟨oC, gC₃, hoC⟩ := ns_obj nC₃
        have N₃ : News h₀ L h₃ ((I, _) :: (C, oC) :: (D, lst ys) :: (K, oK₃) :: news) := fun p hp => by
          rcases List.mem_cons.mp hp with rfl | hp
          · exact ⟨hst₃, hIL, hI₀⟩
          rcases List.mem_cons.mp hp with rfl | hp
          · exact ⟨gC₃, Ne.symm (qC _ hL), hC₀⟩
          rcases List.mem_cons.mp hp with rfl | hp
          · exact ⟨hs₃.extBut _ _ qDK (N₂ _ (.head _)).1, (N₂ _ (.head _)).2⟩
          rcases List.mem_cons.mp hp with rfl | hp
          · exact ⟨gK₃, Ne.symm (qK _ hL), hK₀⟩
          · exact ⟨hs₃.extBut _ _ (qK _ (hNw p hp)) (N₂ p (.tail _ hp)).1, (N₂ p (.tail _ hp)).2⟩
        refine wpAny_mono (T i t I _ C oC D K oK₃ ys h₃ _ _ hlt hP' dK₃ F₃ N₃) (fun y s₄ h₄ => ?_) fun _ _ e => e
        obtain ⟨h₄, tk₄, rfl, F₄, N₄, P₄⟩ := h₄
        have gI₄ := (N₄ _ (.head _)).1
        have gC₄ := (N₄ _ (.tail _ (.head _))).1
        have gD₄ := (N₄ _ (.tail _ (.tail _ (.head _)))).1
        have gK₄ := (N₄ _ (.tail _ (.tail _ (.tail _ (.head _))))).1
        refine append_at (hsz := by show ys.toArray.size ≤ sizeLine; rw [List.size_toArray, hyl]; exact Nat.le_trans hi hsz) gD₄ fun h₅ hs₅ hD₅ => ?_
        refine ⟨n + 1 - (i + 1), by omega, h₅, tk₄, i + 1, ys ++ [y], _, oK₃, _, rfl, hlt, rfl, by rw [List.length_append, List.length_singleton, hyl], hs₅.extBut _ _ (qD _ hI) gI₄, F₄.change hs₅ (Ne.symm (qD _ hL)) hD₀,
          (hoC.ns gC₄).sameBut hs₅ (Ne.symm qDC), hs₅.extBut _ _ (Ne.symm qDK) gK₄, dK₃, fun p hp => ?_, P₄⟩
        rcases List.mem_cons.mp hp with rfl | hp
        · exact ⟨hD₅.trans (congrArg some (lst_snoc ys y)), Ne.symm (qD _ hL), hD₀⟩
        · exact ⟨hs₅.extBut _ _ (qD _ (hNw p hp)) (N₄ p (.tail _ (.tail _ (.tail _ (.tail _ hp))))).1, (N₄ p (.tail _ (.tail _ (.tail _ (.tail _ hp))))).2⟩
      · obtain rfl : i = n := Nat.le_antisymm hi (Nat.not_lt.mp hlt)
        refine W.done _ _ _ hst' fun h₂ tk₂ hk₂ => ?_
        exact hRR _ _ h₂ tk₂ _ ys (fr_but F' hk₂ (Ne.symm hIL) hI₀) (news_but N' hk₂ offI) (by
          have key : ∀ l : List (Addr × Obj), (∀ p ∈ l, p.1 ≠ D) → Off1 D l := by
            intro l
            induction l with
            | nil => intro _; trivial
            | cons p r ih => intro q; exact ⟨q p (.head _), ih fun y hy => q y (.tail _ hy)⟩
          exact key news fun p hp => qD _ (hNw p hp)) (hn'.at' fun o e => hk₂ _ o (by simpa using Ne.symm (qC _ hI)) e) hC₀ (Ne.symm (qC _ hL)) qDC (fun p hp => qC _ (hNw p hp)) hP'
    · rcases List.mem_cons.mp hp with rfl | hp
      · exact ⟨gD3, Ne.symm (qD _ hL), hD₀⟩
      · exact ⟨old _ _ (N p hp).1, (N p hp).2⟩
  exact codeAny_compStart_list (loop _ rfl) (W.self 0 _ _ _ (old _ _ hst) (loop _ rfl))
/-- what the source of such a block must be: a small range -/
def KSrc (prog : Program) (w : World) (A : Around) (h₀ : Heap) (L : Addr) (m : Str → Option Value) (env : Env) (elt : PySem.Expr) (x : Str) (scope : Scope) (cl : List (Str × Addr)) (n : Nat) (P : Nat → List Value → Prop) (Fin : List (Addr × Obj) → Shared → Prop)
    (xv : Value) (s₁ : Shared) : Prop :=
  ∃ r a b t u v news, xv = .ref r ∧ A.handled = none ∧ Fr h₀ L s₁.heap m ∧ News h₀ L s₁.heap news ∧ IsRange s₁.heap r a b 1 t u v ∧ Builtin.Range.small a b 1 = true ∧ Builtin.Range.rangeSize a b 1 = ((n : Nat) : Int) ∧ n ≤ sizeLine ∧ P 0 [] ∧
    (∀ g, KTurn prog w A h₀ L m env elt x scope cl news a n P { s₁ with heap := g }) ∧ Fin news s₁
theorem Assign_K {elt iter : PySem.Expr} {x y : Str} {px py : Pos} {scope : Scope} {cl : List (Str × Addr)} {pos spos : Pos} {Q : Flow → Shared → Prop} (n : Nat) (P : Nat → List Value → Prop) (_F : Fr h₀ L s.heap m) (hLe : env.locals = L)
    (hsw : swapsWith (.ListComp elt [⟨.Name x px, iter, [], 0⟩] scope pos) (some (.Name y py)) spos.line env = pure true)
    (hclos : closureFor scope env = pure cl) (hce : ∀ b, cellsFrom b scope.names cl = (x, b) :: cl) (hpc : ∀ h : Heap, pushCells h scope.names = h.push { cls := .type "cell", data := .cell none }) (hkind : scope.kind = .function)
    (hnames : ∀ z ∈ scope.names, z.2 = .local → scope.names.lookup z.1 = some .local) (hx : ∀ C K, (compEnvC scope ((x, K) :: cl) C env).kindOf x = some .cell)
    (hy : env.kindOf y = some .local) (hp : (env.scope.kind == .class || (env.scope.kind == .module && env.locals != env.globals)) = false)
    (h : wpAny (model prog w) A (eval iter env) (KSrc prog w A h₀ L m env elt x scope cl n P fun news s₁ => ∀ D h tk ys, P n ys → Fr h₀ L h (fun z => if z = y then some (.ref D) else m z) → News h₀ L h ((D, lst ys) :: news) → Off1 D news → Q .next { s₁ with heap := h, toks := tk }) E s)
    (hs : ∀ x, foldedSetIterable iter env x = pure x := by intro _; rfl) :
    wpAny (model prog w) A (exec (.Assign [.Name y py] (.ListComp elt [⟨.Name x px, iter, [], 0⟩] scope pos) spos) env) Q E s := by
  subst hLe
  rw [exec_Assign_Name_used _ _ _ _ hsw]
  refine wpAny_bind (wpAny_standAt (wpAny_bind ?_))
  show wpAny _ A (do let _ ← comprehension (.ListComp elt [⟨.Name x px, iter, [], 0⟩] scope pos) scope env _ (newList []) false (eval iter env) (some (assign (.Name y py) env))) _ _ s
  refine wpAny_bind (wpAny_mono (wpAny_comprehension_free (use := some (assign (.Name y py) env)) (Q := fun _ s' => Q .next s') rfl hs hclos hkind hnames
    (wpAny_mono h (fun xv s₁ h₁ => ?_) fun _ _ e => e)) (fun _ s' hq => wpAny_pure (wpAny_pure hq)) fun _ _ e => e)
  obtain ⟨r, a, b, t, u, v, news, rfl, hh, F, N, hr, hsm, hn, hsz, hP, T, fin⟩ := h₁
  refine wpAny_pyIter_range hr hsm ?_
  refine block_K (P := P) (n := n) (a := a) hh hsz hce hpc hkind hx (by show IsRangeIter _ _ _ _ _; rw [hn]; simpa using Heap.get?_push_size _ rfl) (F.keeps fun _ _ e => Heap.get?_push_of_some _ e) (N.grown fun _ _ e => Heap.get?_push_of_some _ e)
    (Ne.symm (Nat.ne_of_lt F.ns.lt)) (next_is_new F) (fun p hp => Nat.ne_of_lt (Heap.lt_size (N p hp).1)) hP (T _) ?_
  intro D C h' tk m' ys F' N' o1 hnC hC₀ hCL hDC offC hPn
  show wpAny _ A (assign (.Name y py) env (.ref D)) _ _ _
  refine wpAny_assign_Name (wpAny_storeName_local hy F'.ns (fun h₂ hn₂ hs₂ => ?_) hp)
  have hL₀ : h₀.get? env.locals = none := Heap.get?_none_of_le F'.above
  have F₂ : Fr h₀ env.locals h₂ (fun z => if z = y then some (.ref D) else m z) := ⟨hn₂, fun b o e => hs₂.extBut b o (fun q => by rw [q, hL₀] at e; cases e) (F'.keep b o e), F'.above⟩
  refine ⟨m', hnC.sameBut hs₂ hCL, fun h'' hs'' => fin D h'' _ ys hPn (F₂.change hs'' hCL hC₀) (fun p hp => ?_) o1⟩
  have z : h₂.get? p.1 = some p.2 := hs₂.extBut _ _ (N' p hp).2.1 (N' p hp).1
  refine ⟨hs''.extBut _ _ ?_ z, (N' p hp).2⟩
  rcases List.mem_cons.mp hp with rfl | hp
  · exact hDC
  · exact offC p hp
end
end Ty

end TyCkPart
section TyCePart
open PySem PySem.W PyProof.Rows PySem.Calls PySem.Spec PyProof.Rows.LCg
set_option maxRecDepth 100000
namespace Ty
theorem rst_TyCe : True := by
  w_top off
  k_with_none
  trivial
structure Keep (P : Prop) : Prop where
  out : P
theorem f9 (x : Int) : 0 ≤ x.fmod 9 ∧ x.fmod 9 ≤ 8 := ⟨Int.fmod_nonneg_of_pos _ (by decide), by have := Int.fmod_lt_of_pos x (b := 9) (by decide); omega⟩
theorem ln_TyCe_1 : True := by
  k_with_none
  k_with "eval Name" => (k_dflt (refine LCgL.ld_own (by assumption) (by assumption) (by assumption) (by assumption) ?_ (by assumption) (by assumption)))
  trivial
set_option maxHeartbeats 4000000 in
/-- a number's colour: a list of three figures to the base nine -/
theorem colour_elt {prog : Program} {w : World} {A : Around} {E : Value → Shared → Prop} {s : Shared} {h₀ : Heap} {L C : Addr} {m : Str → Option Value} {news : List (Addr × Obj)} {scope : Scope} {cl : List (Str × Addr)} {env : Env} {m₂ : Str → Option Value} {oC : Obj} {a : Int} {t : Tok} {Q : Value → Shared → Prop}
    {p1 p2 p3 p4 p5 p6 p7 p8 p9 p10 p11 p12 p13 p14 : Pos} (F : Fr h₀ L s.heap m) (N : News h₀ L s.heap news) (hm : (C, oC) ∈ news) (hC : LCg.NsObj oC m₂) (hx : m₂ (Str.ofString "heap") = some (.int a t))
    (h : ∀ (e : Col) h' tk, Keep (InR e.tri) → Fr h₀ L h' m → News h₀ L h' ((e.a, W.listOf e.vals.toArray 0) :: news) → AllLt e.a news → Q (.ref e.a) { s with heap := h', toks := tk })
    (hk : (compEnvC scope cl C env).scope.kind = .function) (hl1 : (compEnvC scope cl C env).kindOf (Str.ofString "heap") = some .local) :
    wpAny (model prog w) A (eval (.List [.BinOp (.Name (Str.ofString "heap") p1) .Mod (.Constant (.int 9) 0 p2) p3,
      .BinOp (.BinOp (.Name (Str.ofString "heap") p4) .FloorDiv (.Constant (.int 9) 0 p5) p6) .Mod (.Constant (.int 9) 0 p7) p8,
      .BinOp (.BinOp (.Name (Str.ofString "heap") p9) .FloorDiv (.Constant (.int 81) 0 p10) p11) .Mod (.Constant (.int 9) 0 p12) p13] p14) (compEnvC scope cl C env)) Q E s := by
  k_steps
  all_goals (
    (try dsimp only)
    (rename News _ _ _ _ => lN')
    exact h ⟨_, _, _, _, _, _, _⟩ _ _ ⟨⟨f9 _, f9 _, f9 _⟩⟩ (by assumption) lN' (allLt_of fun p hp => Heap.lt_size (N p hp).1))
/-- the parts of three colours, and what they come to -/
theorem part_at {e0 e1 e2 : Col} {row : List Int} {r : Tri} (h0 : InR e0.tri) (h1 : InR e1.tri) (h2 : InR e2.tri) (hs : ∀ x ∈ row, IsSym x) (hr : (colM e0.tri e1.tri e2.tri).run row [] = some [r]) {i : Nat} (hi : i < 3) :
    ∃ q0 w0 q1 w1 q2 w2 a, e0.vals[((0 : Int) + (i : Int)).toNat]? = some (.int q0 w0) ∧ e1.vals[((0 : Int) + (i : Int)).toNat]? = some (.int q1 w1) ∧ e2.vals[((0 : Int) + (i : Int)).toNat]? = some (.int q2 w2) ∧
      (0 ≤ q0 ∧ q0 ≤ 8) ∧ (0 ≤ q1 ∧ q1 ≤ 8) ∧ (0 ≤ q2 ∧ q2 ≤ 8) ∧ (partM q0 q1 q2).run row [] = some [a] ∧ ([r.1, r.2.1, r.2.2] : List Int)[i]? = some a := by
  have hp := col_parts hs hr
  have h3 : i = 0 ∨ i = 1 ∨ i = 2 := by omega
  rcases h3 with rfl | rfl | rfl
  · exact ⟨_, _, _, _, _, _, _, rfl, rfl, rfl, h0.1, h1.1, h2.1, hp.1, rfl⟩
  · exact ⟨_, _, _, _, _, _, _, rfl, rfl, rfl, h0.2.1, h1.2.1, h2.2.1, hp.2.1, rfl⟩
  · exact ⟨_, _, _, _, _, _, _, rfl, rfl, rfl, h0.2.2, h1.2.2, h2.2.2, hp.2.2, rfl⟩
end Ty

end TyCePart
section TyW0Part
open PySem PySem.W PyProof.Rows PySem.Calls PySem.Spec PyProof.Rows.LCg
set_option maxRecDepth 100000
namespace Ty
theorem rst_TyW0 : True := by
  w_top off
  k_with_none
  trivial
theorem ln_TyW0_1 : True := by
  k_with_none
  k_with "room" => (first | omega | decide +kernel | (simp only [recursionLimit, cLine] at *; omega))
  trivial
theorem off1_new {h₀ h : Heap} {L b : Addr} {news : List (Addr × Obj)} (N : News h₀ L h news) (hb : h.get? b = none) : Off1 b news := by
  have key : ∀ l : List (Addr × Obj), (∀ p ∈ l, h.get? p.1 = some p.2) → Off1 b l := by
    intro l
    induction l with
    | nil => intro _; trivial
    | cons p r ih =>
      intro q
      refine ⟨fun e => ?_, ih fun p hp => q p (List.mem_cons_of_mem _ hp)⟩
      have h1 := q p (List.mem_cons_self ..)
      have e' : p.1 = b := e
      rw [e', hb] at h1; cases h1
  exact key news fun p hp => (N p hp).1
abbrev lawSc : Scope := { kind := ScopeKind.function, names := [(Str.ofString "script", NameKind.local), (Str.ofString "heaps", NameKind.local), (Str.ofString "colours", NameKind.cell), (Str.ofString "row", NameKind.cell), (Str.ofString "text", NameKind.local), (Str.ofString "hand", NameKind.local), (Str.ofString "page", NameKind.local), (Str.ofString "told", NameKind.local), (Str.ofString "due", NameKind.local), (Str.ofString "_law_heaps", NameKind.globalImplicit), (Str.ofString "_law_formula", NameKind.globalImplicit), (Str.ofString "_law_text", NameKind.globalImplicit), (Str.ofString "_law_written", NameKind.globalImplicit), (Str.ofString "_law_spelled", NameKind.globalImplicit), (Str.ofString "_law_read", NameKind.globalImplicit), (Str.ofString "range", NameKind.globalImplicit), (Str.ofString "_law_mixed", NameKind.globalImplicit)], isGenerator := false, isCoroutine := false, more := [(Str.ofString "fast", Const.str (Str.ofString "script")), (Str.ofString "fast", Const.str (Str.ofString "heaps")), (Str.ofString "fast", Const.str (Str.ofString "heap")), (Str.ofString "fast", Const.str (Str.ofString "colours")), (Str.ofString "fast", Const.str (Str.ofString "row")), (Str.ofString "fast", Const.str (Str.ofString "text")), (Str.ofString "fast", Const.str (Str.ofString "hand")), (Str.ofString "fast", Const.str (Str.ofString "page")), (Str.ofString "fast", Const.str (Str.ofString "told")), (Str.ofString "fast", Const.str (Str.ofString "k")), (Str.ofString "fast", Const.str (Str.ofString "colour")), (Str.ofString "fast", Const.str (Str.ofString "due"))] }
theorem law_env (L a : Addr) (v : Value) : envOfC (Str.ofString "law") lawSc L a v = envX (Str.ofString "law") lawSc L a v [(Str.ofString "row", L + 1 + 1), (Str.ofString "colours", L + 1)] := by
  kernel_rfl!
theorem ln_TyW0_2 : True := by
  k_with "call ref" => (refine halt_of2 ?_)
  k_with "storeName" => ((with_reducible first | show wpAny _ _ (storeName _ (Str.ofString "colours") _) _ _ _ | show wpAny _ _ (storeName _ (Str.ofString "row") _) _ _ _); refine halt_of2 ?_)
  k_with "exec Assign Name ListComp" => ((with_reducible show wpAny _ _ (exec (.Assign [.Name (Str.ofString "due") _] _ _) _) _ _ _); refine halt_of2 ?_)
  k_with "eval ListComp" => (k_here; k_dflt (refine LCg.ListComp_U (F₀ := by k_asm) (by rfl) (by decide) (by rfl) (by decide) (by rfl) ?_))
  k_with "CompSrc" => (k_here; k_dflt (refine LCg.CompSrc.ledger (by rfl) (by k_asm) (by k_asm) (by k_mem) (by first | size_fits | exact Nat.le_of_ble_eq_true rfl) ?_; intro g9k; lcg_lit))
  trivial
theorem led8 {P : Prop} {h₀ h : Heap} {L D Ds D0 c1 c2 : Addr} {e0 e1 e2 : Col} {o1 o5 o6 o7 o8 : Obj} {n0 n1 n2 : Nat}
    (_N : News h₀ L h [(D, o1), (e2.a, W.listOf e2.vals.toArray n2), (e1.a, W.listOf e1.vals.toArray n1), (e0.a, W.listOf e0.vals.toArray n0), (Ds, o5), (D0, o6), (c1, o7), (c2, o8)]) (b0 : Keep (InR e0.tri)) (b1 : Keep (InR e1.tri)) (b2 : Keep (InR e2.tri))
    (k : ∀ D' e2' e1' e0' Ds', D' = D → e2' = e2 → e1' = e1 → e0' = e0 → Ds' = Ds → Keep (InR e0'.tri) → Keep (InR e1'.tri) → Keep (InR e2'.tri) → P) : P := k D e2 e1 e0 Ds rfl rfl rfl rfl rfl b0 b1 b2
/-- an address apart from six others; hidden from arithmetic -/
def Apart6 (c a b d e f g : Addr) : Prop := a ≠ c ∧ b ≠ c ∧ d ≠ c ∧ e ≠ c ∧ f ≠ c ∧ g ≠ c
theorem drop_25 {h₀ h : Heap} {L : Addr} {r s a b c d e : Addr × Obj} {l : List (Addr × Obj)} (N : News h₀ L h (r :: s :: a :: b :: c :: d :: e :: l)) : News h₀ L h (r :: a :: b :: c :: d :: l) := fun p hp => N p (by
  simp only [List.mem_cons] at hp ⊢
  rcases hp with h | h | h | h | h | h <;> simp [h])
theorem drop_2 {h₀ h : Heap} {L : Addr} {r s : Addr × Obj} {l : List (Addr × Obj)} (N : News h₀ L h (r :: s :: l)) : News h₀ L h l := fun p hp => N p (.tail _ (.tail _ hp))
theorem mod5 (x : Int) : ∃ k : Nat, k < 5 ∧ x.fmod 5 = (k : Int) := by
  have h1 := Int.fmod_nonneg_of_pos x (b := 5) (by decide)
  have h2 := Int.fmod_lt_of_pos x (b := 5) (by decide)
  exact ⟨(x.fmod 5).toNat, by omega, by omega⟩
/-- a list stood before, or it may be written down -/
theorem list_in {h₀ h : Heap} {L a : Addr} {m : Str → Option Value} {news : List (Addr × Obj)} {vs : Array Value} (F : Fr h₀ L h m) (N : News h₀ L h news) (hl : h.IsList a vs) :
    h₀.IsList a vs ∨ ∃ o n, News h₀ L h ((a, o) :: news) ∧ o.cls = .type "list" ∧ o.data = .seq vs n := by
  obtain ⟨o, ho, hc, n, hd⟩ := hl
  cases e : h₀.get? a with
  | some o' =>
    have e2 := F.keep a o' e
    rw [ho] at e2
    obtain rfl := Option.some.inj e2
    exact .inl ⟨o, e, hc, n, hd⟩
  | none =>
    refine .inr ⟨o, n, fun p hp => ?_, hc, hd⟩
    rcases List.mem_cons.mp hp with rfl | hp
    · refine ⟨ho, fun q => ?_, e⟩
      obtain ⟨o2, es, ep, e3, e4, _⟩ := F.ns
      dsimp only at q
      rw [← q, ho] at e3
      obtain rfl := Option.some.inj e3
      rw [hd] at e4
      cases e4
    · exact N p hp
/-- the same, with what is to be kept behind the ledger -/
theorem list_in8 {h₀ h : Heap} {L a : Addr} {m : Str → Option Value} {p1 p2 p3 p4 p5 p6 p7 p8 p9 p10 p11 : Addr × Obj} {vs : Array Value} (F : Fr h₀ L h m) (N : News h₀ L h [p1, p2, p3, p4, p5, p6, p7, p8, p9, p10, p11]) (hl : h.IsList a vs) :
    ∃ ex, News h₀ L h (p1 :: p2 :: p3 :: p4 :: p5 :: p6 :: p7 :: p8 :: p9 :: p10 :: p11 :: ex) ∧ ∀ {h' : Heap} {m' : Str → Option Value}, Fr h₀ L h' m' → News h₀ L h' (p1 :: p2 :: p3 :: p4 :: p5 :: p6 :: p7 :: p8 :: p9 :: p10 :: p11 :: ex) → h'.IsList a vs := by
  rcases list_in F N hl with hb | ⟨o, n, N5, hc, hd⟩
  · exact ⟨[], N, fun F' _ => stays_list F'.keep hb⟩
  · refine ⟨[(a, o)], fun p hp => N5 p ?_, fun _ N' => ⟨o, (N' (a, o) (by simp)).1, hc, n, hd⟩⟩
    have e : p1 :: p2 :: p3 :: p4 :: p5 :: p6 :: p7 :: p8 :: p9 :: p10 :: p11 :: [(a, o)] = [p1, p2, p3, p4, p5, p6, p7, p8, p9, p10, p11] ++ [(a, o)] := rfl
    rw [e, List.mem_append] at hp
    rcases hp with hp | hp
    · exact .tail _ hp
    · rw [List.mem_singleton.mp hp]; exact .head _
theorem five_in {a0 a1 a2 a3 a4 a5 a6 a7 a8 b : Int} (h : In8 b a0 a1 a2 a3 a4 a5 a6 a7 a8) : ∀ x ∈ [a3, a4, a5, a6, a7], 0 ≤ x ∧ x ≤ b := by
  obtain ⟨h0, h1, h2, h3, h4, h5, h6, h7, h8⟩ := h
  intro x hx
  simp only [List.mem_cons, List.not_mem_nil, or_false] at hx
  rcases hx with rfl | rfl | rfl | rfl | rfl
  · exact h3
  · exact h4
  · exact h5
  · exact h6
  · exact h7
theorem apart8 {P : Prop} {h₀ h : Heap} {L D l2 l1 l0 Ds D0 c1 c2 : Addr} {o1 o2 o3 o4 o5 o6 o7 o8 : Obj} (_N : News h₀ L h [(D, o1), (l2, o2), (l1, o3), (l0, o4), (Ds, o5), (D0, o6), (c1, o7), (c2, o8)])
    (p : Apart6 c1 D l2 l1 l0 Ds D0) (q : Apart6 c2 D l2 l1 l0 Ds D0) (k : Apart6 c1 D l2 l1 l0 Ds D0 → Apart6 c2 D l2 l1 l0 Ds D0 → P) : P := k p q
theorem ln_TyW0_3 : True := by
  k_with "apart" => (first | with_reducible assumption | (refine Ne.symm ?_; with_reducible assumption) | (refine Nat.ne_of_lt ?_; with_reducible assumption) | (refine Nat.ne_of_gt ?_; with_reducible assumption))
  k_with "subscriptTail Name Name ref int" => (k_here; refine led_item (by k_asm) (by k_mem) (by omega) (by omega) (by with_reducible assumption) ?_)
  k_with "eval List" => (k_here; k_dflt (refine colour_elt (by k_asm) (by k_asm) (by k_mem) (by with_reducible assumption) (by with_reducible assumption) ?_ (by rfl) (by rfl)); intro e9k h9k tk9k b9k F9k N9k l19k; (simp only [AllLt, and_true] at l19k))
  k_with "compareOp Eq ref ref" => (refine halt_of2 ?_)
  trivial
local macro_rules | `(tactic| k_ne) => `(tactic| (refine neN ?_; (try dsimp only); first | with_reducible assumption | (refine Ne.symm ?_; with_reducible assumption) | (refine Nat.ne_of_lt ?_; with_reducible assumption) | (refine Nat.ne_of_gt ?_; with_reducible assumption) | omega))
theorem ln_TyW0_4 : True := by
  k_with "CompEnd" => ((repeat (rename _ ∧ _ => x9; have _ := x9.1; have _ := x9.2; clear x9)); lcg_end; (repeat (rename (@Ne Nat _ _) => x9; clear x9)))
  trivial
set_option maxHeartbeats 4000000 in
theorem law_holds : PySem.Challenge.rw_ty0041_01.Holds := Ty.hd (by
  k_go0
  (all_goals try k_fold)
  rw [law_env]
  k_unmd
  k_steps
  unfold Halt
  (try k_fold)
  rename Fr _ _ _ _ => lF'
  rename News _ _ _ _ => lN'
  refine Meets.use (heaps_meets (by with_reducible assumption) (by omega)) (by k_asm) lF' lN' (by k_asm) (by k_asm) (by k_asm) rfl (by k_extra "room") (by k_extra "room") (stays_list lF'.keep (by with_reducible assumption)) ?_
  intro r' h' tk' F' N' _ hp'
  obtain ⟨D0, hv', k0, hs', he', hn', hg', hi', hN'⟩ := hp'
  subst he'
  obtain ⟨a0, a1, a2, a3, a4, a5, a6, a7, a8, t0, t1, t2, t3, t4, t5, t6, t7, t8, hvv', hb8'⟩ := nine_ex hi' hN'
  subst hvv'
  have o9' := off1_new lN' hn'
  simp only [LCg.Off1, and_true] at o9'
  replace o9' := Keep.mk o9'
  replace hb8' := Keep.mk hb8'
  replace N' := news_add lF' N' hn' hg'
  clear hn' hg' lF' lN' hi' hN'
  ((try k_unmd); repeat k_unfold)
  (try dsimp only)
  k_unmd
  k_fold
  k_steps
  unfold Halt
  replace o9' := o9'.out
  (repeat (rename _ ∧ _ => x9; have _ := x9.1; have _ := x9.2; clear x9))
  rename Fr _ _ _ _ => lF'
  rename News _ _ _ _ => lN'
  refine led8 lN' (by with_reducible assumption) (by with_reducible assumption) (by with_reducible assumption) (fun D e2 e1 e0 Ds g1 g2 g3 g4 g5 b0 b1 b2 => ?_)
  subst g1 g2 g3 g4 g5
  refine apart8 lN' ⟨by k_extra "apart", by k_extra "apart", by k_extra "apart", by k_extra "apart", by k_extra "apart", by k_extra "apart"⟩ ⟨by k_extra "apart", by k_extra "apart", by k_extra "apart", by k_extra "apart", by k_extra "apart", by k_extra "apart"⟩ (fun P1 P2 => ?_)
  (repeat (rename (@Ne Nat _ _) => x9; clear x9))
  (repeat (rename (@LT.lt Nat _ _ _) => x9; clear x9))
  k_unmd
  k_fold
  refine storeX_C lF' lN' (by kernel_rfl!) (UpdF.tail P2.1 (UpdF.tail P2.2.1 (UpdF.tail P2.2.2.1 (UpdF.tail P2.2.2.2.1 (UpdF.tail P2.2.2.2.2.1 (UpdF.tail P2.2.2.2.2.2 (UpdF.tail (neN (by dsimp only; omega)) (UpdF.head (List.forall_mem_nil _))))))))) (by with_reducible assumption) ?_ rfl rfl
  intro h3 oc3 F3 N3 d3
  clear lF' lN'
  (try dsimp only at N3)
  ((try k_unmd); repeat k_unfold)
  k_unmd
  (try k_fold)
  k_steps
  unfold Halt
  (try k_fold)
  rename Fr _ _ _ _ => lF'
  rename News _ _ _ _ => lN'
  have IF : IntsAre [Value.int a3 t3, .int a4 t4, .int a5 t5, .int a6 t6, .int a7 t7] [a3, a4, a5, a6, a7] := .cons _ _ (.cons _ _ (.cons _ _ (.cons _ _ (.cons _ _ .nil))))
  refine Meets.use (formula_meets IF rfl (five_in hb8'.out)) (by k_asm) lF' lN' (by k_asm) (by k_asm) (by k_asm) rfl (by k_extra "room") (by k_extra "room") (News.isList lN' (by k_mem)) ?_
  intro r' h' tk' F' N' _ hp'
  obtain ⟨R, rv, kr, row, he', hn', hg', hir, hfo, hsy, hrl⟩ := hp'
  subst he'
  have PR := Ne.symm (ne_new (b := R) lN' (List.Mem.tail _ (List.Mem.tail _ (List.Mem.tail _ (List.Mem.tail _ (List.Mem.tail _ (List.Mem.tail _ (List.Mem.tail _ (List.Mem.head _)))))))) hn')
  have N5 := drop_25 (news_add lF' N' hn' hg')
  clear hn' hg' lF' lN' N' IF
  (rename _ ∧ _ => x9; clear x9)
  ((try k_unmd); repeat k_unfold)
  (try dsimp only)
  k_unmd
  k_steps
  unfold Halt
  (try k_fold)
  rename Fr _ _ _ _ => lF'
  rename News _ _ _ _ => lN'
  refine storeX_C lF' lN' (by kernel_rfl!) (UpdF.tail PR (UpdF.tail P1.1 (UpdF.tail P1.2.1 (UpdF.tail P1.2.2.1 (UpdF.tail P1.2.2.2.1 (UpdF.tail P1.2.2.2.2.2 (UpdF.head (List.forall_mem_cons.mpr ⟨neN (by dsimp only; omega), List.forall_mem_nil _⟩)))))))) (by with_reducible assumption) ?_ rfl rfl
  intro h4 oc4 F4 N4 d4
  clear lF' lN'
  (try dsimp only at N4)
  ((try k_unmd); repeat k_unfold)
  k_unmd
  k_steps
  unfold Halt
  (try k_fold)
  rename Fr _ _ _ _ => lF'
  rename News _ _ _ _ => lN'
  rename IntsAre _ (row ++ [0]) => hi0
  refine Meets.use (text_meets hi0 hsy (by omega)) (by k_asm) lF' lN' (by k_asm) (by k_asm) (by k_asm) rfl (by k_extra "room") (by k_extra "room") (News.isList lN' (by k_mem)) ?_
  intro r' h' tk' F' N' _ hp'
  obtain ⟨tt, he'⟩ := hp'
  subst he'
  replace N' := drop_2 N'
  clear lF' lN' hi0
  (rename _ ∧ _ => x9; clear x9)
  (rename _ ∧ _ => x9; clear x9)
  ((try k_unmd); repeat k_unfold)
  (try dsimp only)
  k_unmd
  k_steps
  unfold Halt
  (try k_fold)
  rename Fr _ _ _ _ => lF'
  rename News _ _ _ _ => lN'
  obtain ⟨k, hk5, ek⟩ := mod5 ([a0, a1, a2, a3, a4, a5, a6, a7, a8].getD (Int.toNat 8) 0)
  rw [ek] at lF' ⊢
  have hl4 : (rowText row).length ≤ 400 := by have := rowText_len row; omega
  refine Meets.use (written_meets hk5 hl4 (row_signs row)) (by k_asm) lF' lN' (by k_asm) (by k_asm) (by k_asm) rfl (by k_extra "room") (by k_extra "room") trivial ?_
  intro r' h' tk' F' N' _ hp'
  obtain ⟨tt, he'⟩ := hp'
  subst he'
  clear lF' lN'
  ((try k_unmd); repeat k_unfold)
  (try dsimp only)
  k_unmd
  k_steps
  unfold Halt
  (try k_fold)
  rename Fr _ _ _ _ => lF'
  rename News _ _ _ _ => lN'
  refine Meets.use (spelled_meets hk5 hl4 (row_signs row)) (by k_asm) lF' lN' (by k_asm) (by k_asm) (by k_asm) rfl (by k_extra "room") (by k_extra "room") trivial ?_
  intro r' h' tk' F' N' _ hp'
  obtain ⟨tt, he'⟩ := hp'
  subst he'
  clear lF' lN'
  ((try k_unmd); repeat k_unfold)
  (try dsimp only)
  k_unmd
  k_steps
  unfold Halt
  (try k_fold)
  rename Fr _ _ _ _ => lF'
  rename News _ _ _ _ => lN'
  rw [pg_flat] at lF' ⊢
  refine Meets.use (read_meets hk5 hsy hrl (pg_len hrl)) (by k_asm) lF' lN' (by k_asm) (by k_asm) (by k_asm) rfl (by k_extra "room") (by k_extra "room") trivial ?_
  intro r' h' tk' F' N' _ hp'
  obtain ⟨R2, rv2, kr2, he', hn', hg', hir2⟩ := hp'
  subst he'
  replace N' := news_add lF' N' hn' hg'
  clear lF' lN' hn' hg'
  ((try k_unmd); repeat k_unfold)
  (try dsimp only)
  k_unmd
  k_steps
  rename Fr _ _ _ _ => lF'
  rename News _ _ _ _ => lN'
  k_unmd
  k_fold
  obtain ⟨r3, hr3⟩ := hfo.run (colM e0.tri e1.tri e2.tri)
  refine Assign_K 3 (fun i ys => IntsAre ys (([r3.1, r3.2.1, r3.2.2] : List Int).take i)) lF' rfl (by with_unfolding_all rfl) (by with_unfolding_all rfl) (by intro b; rfl) (by intro h; rfl) rfl (by decide) (by intro C K; rfl) rfl rfl ?_
  k_unmd
  k_steps
  rename IsRange _ _ _ _ _ _ _ _ => rgX
  rename Fr _ _ _ _ => lF'
  rename News _ _ _ _ => lN'
  refine ⟨_, 0, 3, _, _, _, _, rfl, rfl, lF', lN', rgX, by decide, by decide, by first | size_fits | exact Nat.le_of_ble_eq_true rfl, IntsAre.nil, ?turn, ?fin⟩
  case turn =>
    intro g i ti I oI C oC Dk K oK ys h tk E' hi hPi hdK F N
    clear lF' lN' rgX
    obtain ⟨q0, w0, q1, w1, q2, w2, a, hq0, hq1, hq2, c0, c1, c2, hpa, hra⟩ := part_at b0.out b1.out b2.out hsy hr3 hi
    replace c0 := Keep.mk c0
    replace c1 := Keep.mk c1
    replace c2 := Keep.mk c2
    k_unmd
    k_steps
    unfold Halt
    (try k_fold)
    rename Fr _ _ _ _ => lF'
    rename News _ _ _ _ => lN'
    refine Meets.use (told_meets (p0 := q0) (p1 := q1) (p2 := q2) hir hfo hsy (by omega) c0.out c1.out c2.out hpa) (by k_asm) lF' lN' (by k_asm) (by k_asm) (by k_asm) rfl (by k_extra "room") (by k_extra "room") ⟨News.isList lN' (by k_mem), News.isList lN' (by k_mem)⟩ ?_
    intro r' h' tk' F' N' _ hp'
    obtain ⟨tt, he'⟩ := hp'
    subst he'
    ((try k_unmd); repeat k_unfold)
    (try dsimp only)
    (repeat (k_unfold; (try dsimp only)))
    exact ⟨_, _, rfl, F', fun p hp => N' p (.tail _ hp), ints_snoc hPi hra rfl⟩
  case fin =>
    intro Dd h tk ys hP F N o1
    clear lF' lN' rgX
    obtain ⟨u0, u1, u2, rfl⟩ := ints_three hP
    ((try k_unmd); repeat k_unfold)
    k_unmd
    k_steps
    unfold Halt
    (try k_fold)
    rename Fr _ _ _ _ => lF'
    rename News _ _ _ _ => lN'
    refine Meets.use (mixed_meets (e0 := e0) (e1 := e1) (e2 := e2) hir2 hfo hsy (by omega) b0.out b1.out b2.out hr3) (by k_asm) lF' lN' (by k_asm) (by k_asm) (by k_asm) rfl (by k_extra "room") (by k_extra "room") ⟨News.isList lN' (by k_mem), News.isList lN' (by k_mem), News.isList lN' (by k_mem), News.isList lN' (by k_mem), News.isList lN' (by k_mem)⟩ ?_
    intro r' h' tk' F' N' _ hp'
    obtain ⟨D5, a5, k5, w0, w1, w2, he', hn', hg', hl5⟩ := hp'
    subst he'
    replace N' := news_add lF' N' hn' hg'
    clear hn' hg' lF' lN'
    ((try k_unmd); repeat k_unfold)
    (try dsimp only)
    have I5 : IntsAre [Value.int r3.1 w0, Value.int r3.2.1 w1, Value.int r3.2.2 w2] [r3.1, r3.2.1, r3.2.2] := .cons _ _ (.cons _ _ (.cons _ _ .nil))
    obtain ⟨ex, N5, hl5⟩ := list_in8 F' N' hl5
    clear N'
    k_unmd
    k_steps
    unfold Halt
    rename Fr _ _ _ _ => lF'
    rename News _ _ _ _ => lN'
    refine eq_dataH (reads_list_at (News.get lN' (by k_mem)) rfl rfl (ReadsAll.cons (reads_newData (hl5 lF' (fun p hp => lN' p (.tail _ hp))) (ke_carried I5)) .nil)) (by ke_read) (by ke_shaped) (by ke_shaped) (by ke_room) ?_
    simp only [PyData.eqv, PyData.eqvAll, List.map_cons, List.map_nil, beq_self_eq_true, Bool.and_true]
    k_unmd
    k_steps)
end Ty

end TyW0Part
theorem PySem.Challenge.cw_ty0041_01_holds : PySem.Challenge.rw_ty0041_01.Holds := by
  exact Ty.law_holds
