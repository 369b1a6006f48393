import PyProof.Rows.All
import Wide.All
import OpenK.AllK
import Wide.FinOn
import PySem.Challenge.RW_mr0066_01
open PySem PySem.W PyProof.Rows PySem.Calls
set_option Elab.async false
set_option maxRecDepth 100000
set_option maxHeartbeats 8000000
/-! part HD1 -/
namespace Mine
open_top hd for PySem.Challenge.rw_mr0066_01
end Mine
/-! part W1 -/
namespace Mine
abbrev Led11 (e1 e3 e4 e5 e6 e7 e9 e10 e11 : Addr × Obj) (l pl : Addr) (vs : List Value) (nn : Nat) (p : Int) (tp : Tok) (np : Nat) : List (Addr × Obj) :=
  [e1, (l, W.listOf vs.toArray nn), e3, e4, e5, e6, e7, (pl, W.listOf #[.int p tp] np), e9, e10, e11]
def TPost (h₀ : Heap) (L : Addr) (m₀ : Str → Option Value) (s : Shared) (Led : List Value → Nat → Int → Tok → Nat → List (Addr × Obj)) (P : List Value → Int → Prop) (μ : Int → Nat) (Q : Flow → Shared → Prop) (p : Int) (f : Flow) (s₂ : Shared) : Prop :=
  match f with
  | .ret v => Q (.ret v) s₂
  | .brk => Q .next s₂
  | _ => ∃ vs' nn' p' tp' np' h' tk' news', s₂ = { s with heap := h', toks := tk' } ∧ Fr h₀ L h' m₀ ∧ News h₀ L h' news' ∧ (∀ q ∈ Led vs' nn' p' tp' np', q ∈ news') ∧ P vs' p' ∧ μ p' < μ p
theorem TPost.intro {h₀ : Heap} {L : Addr} {m₀ : Str → Option Value} {s : Shared} {Led : List Value → Nat → Int → Tok → Nat → List (Addr × Obj)} {P : List Value → Int → Prop} {μ : Int → Nat} {Q : Flow → Shared → Prop} {p : Int} {h' : Heap} {tk' : Nat} {news' : List (Addr × Obj)}
    (vs' : List Value) (nn' : Nat) (p' : Int) (tp' : Tok) (np' : Nat) (F : Fr h₀ L h' m₀) (N : News h₀ L h' news') (hn : ∀ q ∈ Led vs' nn' p' tp' np', q ∈ news') (hp : P vs' p') (hm : μ p' < μ p) :
    TPost h₀ L m₀ s Led P μ Q p .next { s with heap := h', toks := tk' } := ⟨vs', nn', p', tp', np', h', tk', news', rfl, F, N, hn, hp, hm⟩
section
variable {prog : Program} {w : World} {A : Around} {E : Value → Shared → Prop} {Q : Flow → Shared → Prop} {s : Shared} {env : Env} {h₀ : Heap} {L : Addr}
theorem while11 {test : Expr} {body : List Stmt} {pos : Pos} {m₀ : Str → Option Value} {e1 e3 e4 e5 e6 e7 e9 e10 e11 : Addr × Obj} {l pl : Addr} {vs : List Value} {nn : Nat} {p : Int} {tp : Tok} {np : Nat}
    (P : List Value → Int → Prop) (μ : Int → Nat)
    (F : Fr h₀ L s.heap m₀) (N : News h₀ L s.heap (Led11 e1 e3 e4 e5 e6 e7 e9 e10 e11 l pl vs nn p tp np)) (hp : P vs p)
    (turn : ∀ vs nn p tp np h tk, P vs p → Fr h₀ L h m₀ → News h₀ L h (Led11 e1 e3 e4 e5 e6 e7 e9 e10 e11 l pl vs nn p tp np) →
      wpAny (model prog w) A (isTrue test env (eval test env)) (fun b s₂ =>
        if b = true then wpAny (model prog w) A (execs body env) (TPost h₀ L m₀ s (Led11 e1 e3 e4 e5 e6 e7 e9 e10 e11 l pl) P μ Q p) E s₂ else Q .next s₂) E { s with heap := h, toks := tk })
    (hE : PassesOwn (model prog w) A env E := by passes_own) :
    wpAny (model prog w) A (exec (.While test body [] pos) env) Q E s := by
  refine While_inv2 (fun n m nx => m = m₀ ∧ ∃ vs nn p tp np, nx = Led11 e1 e3 e4 e5 e6 e7 e9 e10 e11 l pl vs nn p tp np ∧ μ p = n ∧ P vs p) F N ⟨rfl, vs, nn, p, tp, np, rfl, rfl, hp⟩ ?_ hE
  rintro n m₁ nx h tk F₁ N₁ ⟨rfl, vs, nn, p, tp, np, hnx, hsz, hp'⟩
  rw [hnx] at N₁
  rw [← hsz]
  refine wpAny_mono (turn vs nn p tp np h tk hp' F₁ N₁) (fun b s₂ p => ?_) fun _ _ x => x
  cases b with
  | false => simpa using p
  | true =>
    simp only [if_true] at p ⊢
    refine wpAny_mono p (fun f s₃ q => ?_) fun _ _ x => x
    cases f with
    | ret v => exact q
    | brk => exact q
    | next =>
      obtain ⟨vs', nn', p', tp', np', h', tk', news', rfl, F', N', hn, hp9, hm9⟩ := q
      exact ⟨h', tk', m₁, _, μ p', rfl, F', fun p hp => N' p (hn p hp), hm9, rfl, vs', nn', p', tp', np', rfl, rfl, hp9⟩
    | cont =>
      obtain ⟨vs', nn', p', tp', np', h', tk', news', rfl, F', N', hn, hp9, hm9⟩ := q
      exact ⟨h', tk', m₁, _, μ p', rfl, F', fun p hp => N' p (hn p hp), hm9, rfl, vs', nn', p', tp', np', rfl, rfl, hp9⟩
end
end Mine
/-! part R1 -/
namespace Mine
open PySem.Builtin PySem.Builtin.ObjectAttr
theorem slot_fn_setattr : Slot "function" "__setattr__" "object.__setattr__" :=
  .of (owner := "object") (n := "__setattr__") (by rw [typeLookup_type, builtinLookup_eq_fast]; kernel_rfl) (by decide +kernel) (by decide +kernel) (by decide +kernel)
    (by first | exact .inl (by decide +kernel) | exact .inr (by decide +kernel)) (by rw [isSubtype_type]; kernel_rfl)
theorem fn_no_read : typeLookup (.type "function") "read" = pure none := by rw [typeLookup_type, builtinLookup_eq_fast]; kernel_rfl
theorem fn_no_getattr : typeLookup (.type "function") "__getattr__" = pure none := by rw [typeLookup_type, builtinLookup_eq_fast]; kernel_rfl
theorem slot_fn_ga : Slot "function" "__getattribute__" "object.__getattribute__" :=
  .of (owner := "object") (n := "__getattribute__") (by rw [typeLookup_type, builtinLookup_eq_fast]; kernel_rfl) (by decide +kernel) (by decide +kernel) (by decide +kernel)
    (by first | exact .inl (by decide +kernel) | exact .inr (by decide +kernel)) (by rw [isSubtype_type]; kernel_rfl)
theorem fn_mro : mroOf (.type "function") = pure [.type "function", .type "object"] := by rw [mroOf_type]; kernel_rfl
theorem fn_refuse (self : Value) : refuseLoop self "__setattr__" [.type "function", .type "object"] = pure () := by kernel_rfl
theorem fn_hasDict : typeHasDict (.type "function") = true := by decide +kernel
theorem fn_streams (f : Addr) : ownStreamTells (.ref f) (.type "function") = pure () := by kernel_rfl
theorem fn_made (a d : Addr) : dictMade (.type "function") a d = pure (some d) := by kernel_rfl
theorem osa_args (a b c : Value) : argsOk "object.__setattr__" ⟨[a, b, c], []⟩ := PySem.F.store_object.args a b c
theorem entry_ga : entryFor table "object.__getattribute__" = some Builtin.«object.__getattribute__» := entryFor_of_tree (by kernel_rfl)
theorem oga_args (a b : Value) : argsOk "object.__getattribute__" ⟨[a, b], []⟩ := by unfold argsOk; kernel_rfl
abbrev fd1 (P : Params) (tk : Tok) (v : Value) : Obj := dictOf [⟨PyData.keyHash P (Str.ofString "read"), .str (Str.ofString "read") tk, v⟩] 1
section
variable {prog : Program} {w : World} {A : Around} {E : Value → Shared → Prop} {s : Shared} {h₀ : Heap} {L : Addr} {m : Str → Option Value} {news : List (Addr × Obj)} {g : Obj → List (Addr × Obj)}
theorem updF_news {h₀ h : Heap} {L d : Addr} {m : Str → Option Value} {news : List (Addr × Obj)} {g : Obj → List (Addr × Obj)} {o o' : Obj} {f : Obj → Obj} (F : Fr h₀ L h m) (N : News h₀ L h news) (U : UpdF d o news g) (e : f o = o') (hf : o'.isFreed = false) :
    Fr h₀ L (h.update d f) m ∧ News h₀ L (h.update d f) (g o') := by
  obtain ⟨pre, post, rfl, hg, a, b⟩ := U.split
  rw [hg]
  exact news_upd F N a b e hf
theorem setAttr_fn {Q : Unit → Shared → Prop} {f : Addr} {fd : FuncData} {v : Value} (F : Fr h₀ L s.heap m) (N : News h₀ L s.heap news) (U : UpdF f ⟨.type "function", none, .func fd, #[]⟩ news g)
    (h : ∀ d tk h' tk', Fr h₀ L h' m → News h₀ L h' ((d, fd1 w.params tk v) :: g ⟨.type "function", some d, .func fd, #[]⟩) → (∀ p ∈ news, p.1 < d) → Q () { s with heap := h', toks := tk' }) :
    wpAny (model prog w) A (setAttr (.ref f) (Str.ofString "read") v) Q E s := by
  obtain ⟨pre, post, hnews, hg, a, b⟩ := U.split
  have hm : (f, (⟨.type "function", none, .func fd, #[]⟩ : Obj)) ∈ news := by rw [hnews]; simp
  have hf := (N _ hm).1
  obtain ⟨hp, gs, dr, tk, os⟩ := s
  dsimp only at hf F N
  unfold setAttr
  refine wpAny_bind (wpAny_mkText (wpAny_bind ?_))
  have hT : ({ heap := hp, gens := gs, drawn := dr, toks := tk + 1, os := os } : Shared).TypeIs (.ref f) "function" := ⟨_, hf, rfl⟩
  refine wpAny_callSpecial?_slot hT slot_fn_setattr (wpAny_call_entry slot_fn_setattr hT PySem.F.entry_object_sa ?_ (osa_args _ _ _))
  show wpAny _ _ (Builtin.«object.__setattr__» ⟨[.ref f, .str (Str.ofString "read") tk, v], []⟩) _ _ _
  rw [osa_eq, refuse_eq]
  refine wpAny_bind (wpAny_bind (wpAny_typeOf hT (wpAny_bind (wpAny_of_eq fn_mro (wpAny_of_eq (fn_refuse _) ?_)))))
  refine wpAny_bind (wpAny_typeOf hT (wpAny_bind (wpAny_of_eq fn_no_read (wpAny_bind (wpAny_pure ?_)))))
  dsimp only
  unfold storeInOwnDict
  refine wpAny_bind (wpAny_of_eq (fn_streams f) ?_)
  refine bm_if_false (by decide) ?_
  refine wpAny_bind ?_
  unfold ownDictForStores instanceDict
  refine wpAny_bind (wpAny_loadPart hf ?_)
  dsimp only
  refine bm_if_false (by rw [fn_hasDict]; rfl) ?_
  refine wpAny_bind (wpAny_alloc (wpAny_bind ?_))
  have F1 := F.push ({ cls := .type "dict", data := .dict #[] } : Obj)
  have N1 := N.push F ({ cls := .type "dict", data := .dict #[] } : Obj)
  have U1 : UpdF f ⟨.type "function", none, .func fd, #[]⟩ ((hp.objs.size, { cls := .type "dict", data := .dict #[] }) :: news) (fun o' => (hp.objs.size, { cls := .type "dict", data := .dict #[] }) :: g o') :=
    .tail (Nat.ne_of_gt (Heap.lt_size hf)) U
  obtain ⟨F2, N2⟩ := updF_news (f := fun o => { o with dict := some hp.objs.size }) F1 N1 U1 rfl rfl
  have hf1 : (hp.push { cls := .type "dict", data := .dict #[] }).get? f = some ⟨.type "function", none, .func fd, #[]⟩ := Heap.get?_push_of_some _ hf
  refine wpAny_update hf1 ?_
  rw [fn_made]
  refine wpAny_pure ?_
  dsimp only
  unfold storeInDict
  refine wpAny_bind (wpAny_pure (wpAny_bind ?_))
  have D := (N2 _ (.head _)).1
  unfold nsSet
  refine wpAny_bind (wpAny_bind (wpAny_askSetting (wpAny_pure (wpAny_bind (wpAny_mkText (wpAny_bind (wpAny_loadPart D ?_)))))))
  dsimp only
  refine bm_if_false (by rfl) ?_
  have U3 : UpdF hp.objs.size ({ cls := .type "dict", data := .dict #[] } : Obj) ((hp.objs.size, { cls := .type "dict", data := .dict #[] }) :: g ⟨.type "function", some hp.objs.size, .func fd, #[]⟩) (fun o' => (hp.objs.size, o') :: g ⟨.type "function", some hp.objs.size, .func fd, #[]⟩) := by
    refine .head fun p hp' => ?_
    rw [hg] at hp'
    have hlt : ∀ q ∈ news, q.1 < hp.objs.size := fun q hq => Heap.lt_size (N q hq).1
    rcases List.mem_append.mp hp' with q | q
    · exact Nat.ne_of_lt (hlt p (by rw [hnews]; exact List.mem_append_left _ q))
    · rcases List.mem_cons.mp q with q | q
      · rw [q]; exact Nat.ne_of_lt (Heap.lt_size hf)
      · exact Nat.ne_of_lt (hlt p (by rw [hnews]; exact List.mem_append_right _ (.tail _ q)))
  obtain ⟨F3, N3⟩ := updF_news (f := Obj.putName (Str.ofString "read") (PyData.keyHash w.params (Str.ofString "read")) (.str (Str.ofString "read") (tk + 1)) v) F2 N2 U3 (putName_dict _ _ _ _ [] 0) rfl
  refine wpAny_updatePart D ?_
  refine wpAny_bind (wpAny_lookBehind (N3 _ (.head _)).1 (by exact pastItsLine_dict (by rw [sizeLine_eq]; exact Nat.le_of_ble_eq_true rfl)) ?_)
  refine wpAny_pure ⟨_, rfl, ?_⟩
  exact wpAny_pure (h _ _ _ _ F3 N3 (fun p hp' => Heap.lt_size (N p hp').1))
theorem getMethod_fn {Q : Value × List Value → Shared → Prop} {f d r : Addr} {fd : FuncData} {tk : Tok} {pl : Sem Bool} (N : News h₀ L s.heap news) (hf : (f, (⟨.type "function", some d, .func fd, #[]⟩ : Obj)) ∈ news)
    (hd : (d, fd1 w.params tk (.ref r)) ∈ news)
    (h : ∀ tk', Q (.ref r, []) { s with toks := tk' }) :
    wpAny (model prog w) A (getMethod (.ref f) (Str.ofString "read") pl) Q E s := by
  have hf' := (N _ hf).1
  have hd' := (N _ hd).1
  obtain ⟨hp, gs, dr, t0, os⟩ := s
  dsimp only at hf' hd'
  have hT : ({ heap := hp, gens := gs, drawn := dr, toks := t0, os := os } : Shared).TypeIs (.ref f) "function" := ⟨_, hf', rfl⟩
  have hT1 : ({ heap := hp, gens := gs, drawn := dr, toks := t0 + 1, os := os } : Shared).TypeIs (.ref f) "function" := ⟨_, hf', rfl⟩
  unfold getMethod
  refine wpAny_bind (wpAny_specialOf hT slot_fn_ga.lookup ?_)
  dsimp only
  refine bm_if_false (by decide +kernel) ?_
  refine wpAny_bind (wpAny_specialOf hT fn_no_getattr ?_)
  refine bm_if_false rfl ?_
  refine wpAny_bind (wpAny_specialOf hT fn_no_read ?_)
  dsimp only
  refine wpAny_bind ?_
  unfold getAttr getAttrBy
  refine wpAny_bind (wpAny_mkText (wpAny_holding (wpAny_bind (wpAny_typeOf hT1 (wpAny_bind (wpAny_of_eq slot_fn_ga.lookup ?_))))))
  dsimp only
  refine bm_if_false (by rfl) ?_
  unfold getAttrByItsOwn
  refine wpAny_bind (wpAny_pure (wpAny_bind (wpAny_attempt (wpAny_holding ?_))))
  show wpAny _ _ (boundAndCalled (.builtin "object.__getattribute__") (.ref f) (.str (Str.ofString "read") t0)) _ _ _
  unfold boundAndCalled
  refine wpAny_bind (wpAny_of_eq (slot_fn_ga.bind _) ?_)
  refine wpAny_call_entry slot_fn_ga hT1 entry_ga ?_ (oga_args _ _)
  unfold Builtin.«object.__getattribute__»
  refine wpAny_bind (wpAny_of_eq (a := (Value.ref f, [Value.str (Str.ofString "read") t0])) rfl ?_)
  dsimp only
  refine wpAny_bind (wpAny_of_eq (a := Str.ofString "read") rfl (wpAny_bind (wpAny_typeOf hT1 (wpAny_bind ?_))))
  unfold find
  refine wpAny_bind (wpAny_of_eq fn_no_read (wpAny_bind (wpAny_pure (wpAny_bind (wpAny_pure ?_)))))
  dsimp only
  unfold ownThenClass
  refine wpAny_bind ?_
  show wpAny _ _ (ownDict f >>= fun x => inDict (Str.ofString "read") x) _ _ _
  refine wpAny_bind ?_
  unfold ObjectAttr.ownDict loadHead
  refine wpAny_bind (wpAny_loadPart hf' ?_)
  dsimp only
  unfold instanceDict
  refine wpAny_bind (wpAny_loadPart hf' ?_)
  dsimp only
  refine wpAny_pure ?_
  show wpAny _ _ (nsGet d (Str.ofString "read")) _ _ _
  unfold nsGet
  refine wpAny_bind (wpAny_loadPart hd' ?_)
  rw [nsLook_of (r := some (Value.ref r)) (by exact rfl)]
  refine wpAny_pure ?_
  dsimp only
  refine wpAny_bind (wpAny_rule (wpAny_pure ?_))
  dsimp only
  refine wpAny_pure ⟨_, rfl, ?_⟩
  exact wpAny_pure (wpAny_pure (h _))
end
end Mine
/-! part M1 -/
namespace Mine
abbrev fmtB : PySem.Str := ⟨#[101, 120, 112, 101, 99, 116, 101, 100, 32, 37, 100, 32, 98, 121, 116, 101, 115, 32, 105, 110, 32, 97, 32, 98, 121, 116, 101, 115, 49, 44, 32, 98, 117, 116, 32, 111, 110, 108, 121, 32, 37, 100, 32, 114, 101, 109, 97, 105, 110]⟩
abbrev fmtS : PySem.Str := ⟨#[101, 120, 112, 101, 99, 116, 101, 100, 32, 37, 100, 32, 98, 121, 116, 101, 115, 32, 105, 110, 32, 97, 32, 115, 116, 114, 105, 110, 103, 49, 44, 32, 98, 117, 116, 32, 111, 110, 108, 121, 32, 37, 100, 32, 114, 101, 109, 97, 105, 110]⟩
abbrev fmtD : PySem.Str := ⟨#[101, 120, 112, 101, 99, 116, 101, 100, 32, 37, 100, 32, 98, 121, 116, 101, 115, 32, 105, 110, 32, 97, 32, 37, 115, 44, 32, 98, 117, 116, 32, 111, 110, 108, 121, 32, 37, 100, 32, 114, 101, 109, 97, 105, 110]⟩
theorem meets_B {b : Addr} {n k : Int} {t u v : Tok} (h0 : 0 ≤ n) (h1 : n < 256) (k0 : 0 ≤ k) (k1 : k < 256) :
    Meets (Builtin.«str.__mod__» ⟨[.str fmtB t, .ref b], []⟩) (fun _ R s => IsTup s.heap b #[.int n u, .int k v] ∧ ∀ t' k', R (.ok (.ret (.str (Str.ofString "expected " ++ Str.ofString (toString n) ++ Str.ofString " bytes in a bytes1, but only " ++ Str.ofString (toString k) ++ Str.ofString " remain") t'))) { s with toks := k' }) := by
  kpt_run
theorem meets_S {b : Addr} {n k : Int} {t u v : Tok} (h0 : 0 ≤ n) (h1 : n < 256) (k0 : 0 ≤ k) (k1 : k < 256) :
    Meets (Builtin.«str.__mod__» ⟨[.str fmtS t, .ref b], []⟩) (fun _ R s => IsTup s.heap b #[.int n u, .int k v] ∧ ∀ t' k', R (.ok (.ret (.str (Str.ofString "expected " ++ Str.ofString (toString n) ++ Str.ofString " bytes in a string1, but only " ++ Str.ofString (toString k) ++ Str.ofString " remain") t'))) { s with toks := k' }) := by
  kpt_run
theorem meets_D1 {b : Addr} {n k : Int} {t u v x : Tok} (h0 : 0 ≤ n) (h1 : n < 256) (k0 : 0 ≤ k) (k1 : k < 256) :
    Meets (Builtin.«str.__mod__» ⟨[.str fmtD t, .ref b], []⟩) (fun _ R s => IsTup s.heap b #[.int n u, .str (Str.ofString "bytes1") x, .int k v] ∧ ∀ t' k', R (.ok (.ret (.str (Str.ofString "expected " ++ Str.ofString (toString n) ++ Str.ofString " bytes in a " ++ Str.ofString "bytes1" ++ Str.ofString ", but only " ++ Str.ofString (toString k) ++ Str.ofString " remain") t'))) { s with toks := k' }) := by
  kpt_run
theorem meets_D2 {b : Addr} {n k : Int} {t u v x : Tok} (h0 : 0 ≤ n) (h1 : n < 256) (k0 : 0 ≤ k) (k1 : k < 256) :
    Meets (Builtin.«str.__mod__» ⟨[.str fmtD t, .ref b], []⟩) (fun _ R s => IsTup s.heap b #[.int n u, .str (Str.ofString "string1") x, .int k v] ∧ ∀ t' k', R (.ok (.ret (.str (Str.ofString "expected " ++ Str.ofString (toString n) ++ Str.ofString " bytes in a " ++ Str.ofString "string1" ++ Str.ofString ", but only " ++ Str.ofString (toString k) ++ Str.ofString " remain") t'))) { s with toks := k' }) := by
  kpt_run
end Mine
/-! part C1 -/
namespace Mine
def readOf (x : Stmt) : Arguments × List Stmt × Scope := match x with
  | PySem.Stmt.FunctionDef _ _ body _ _ _ _ _ _ _ => match body[1]? with
    | some (PySem.Stmt.FunctionDef _ ps b _ _ _ sc _ _ _) => (ps, b, sc)
    | _ => (default, [], default)
  | _ => (default, [], default)
def readP : Arguments × List Stmt × Scope := match PySem.Challenge.pw_mr0066_01.main.body[13]? with
  | some x => readOf x
  | none => (default, [], default)
local macro_rules | `(tactic| k_room) => `(tactic| first | exact Nat.le_of_ble_eq_true rfl | ((show _ + _ < recursionLimit) <;> omega) | (dsimp only [Around.deeper]; omega))
theorem clip_take (ks : List Int) {i n : Int} (hi : 0 ≤ i) (hn : 0 ≤ n) : (ks.drop (clipAt ks.length i)).take (clipAt ks.length (i + n) - clipAt ks.length i) = (ks.drop i.toNat).take n.toNat := by
  obtain ⟨k, rfl⟩ := Int.eq_ofNat_of_zero_le hi
  obtain ⟨j, rfl⟩ := Int.eq_ofNat_of_zero_le hn
  have e : ((k : Int) + (j : Int)) = ((k + j : Nat) : Int) := by omega
  rw [e, clipAt_nat, clipAt_nat, Int.toNat_natCast, Int.toNat_natCast]
  by_cases h : k ≤ ks.length
  · rw [Nat.min_eq_left h]
    by_cases h2 : k + j ≤ ks.length
    · rw [Nat.min_eq_left h2, Nat.add_sub_cancel_left]
    · rw [Nat.min_eq_right (by omega)]
      rw [List.take_of_length_le (by rw [List.length_drop]; omega), List.take_of_length_le (by rw [List.length_drop]; omega)]
  · rw [Nat.min_eq_right (a := k + j) (by omega), Nat.min_eq_right (a := k) (by omega), List.drop_of_length_le (Nat.le_refl _), List.drop_of_length_le (by omega)]
    simp
theorem read_c {w : World} {p : Program} {loose : List Str} {mean : ExcName → Option Value} {mg mb : Str → Option Value} {dp un : Nat} {gd : Option (List Code)} {cn : Str} {cs : Scope} {a : Addr} {ccd : Value} {cl : List (Str × Addr)} {outer : List Env} {A₀ : Around} {base h₀ : Heap} {L : Addr} {m : Str → Option Value} {s : Shared} {Q E : Value → Shared → Prop}
  {ps : Arguments} {bd : List Stmt} {sc : Scope} {a1 a2 a3 a4 a5 a11 : Nat} {x1 x2 x3 x4 x5 x11 : Obj} {r c' pl c2 c1 : Nat} {qual : Str} {doc pm ctv : Value} {oc o2 o1 : Obj} {vs : Array Value} {tq tp tn bt : Tok} {np : Nat} {b : Array UInt8} {ks : List Int} {i n : Int}
  (hR : readP = (ps, bd, sc))
  (B : Below A₀ base outer h₀) (F : Fr h₀ L s.heap m) (X : (Mine.hd.heap_39 w.params).In h₀) (T : Top p loose mean mg mb h₀) (C : CodeHd base 78 74)
  (N : News h₀ L s.heap [(a1, x1), (a2, x2), (a3, x3), (a4, x4), (a5, x5), (r, fnMade (Str.ofString "read") qual ps bd sc [(Str.ofString "place", c2), (Str.ofString "octets", c1)] doc pm c' ctv), (c', oc), (pl, W.listOf #[.int i tp] np), (c2, o2), (c1, o1), (a11, x11)])
  (hoc : oc.data = .fields vs) (hvs : vs[1]? = some (.str qual tq)) (ho2 : o2.data = .cell (some (.ref pl))) (ho1 : o1.data = .cell (some (.bytes b bt)))
  (hb : KBw.bInts b = ks) (hks : ks.length ≤ 20) (hi0 : 0 ≤ i) (hi1 : i ≤ 1000) (hn0 : 0 ≤ n) (hn1 : n ≤ 255)
  (hne : a1 ≠ pl ∧ a2 ≠ pl ∧ a3 ≠ pl ∧ a4 ≠ pl ∧ a5 ≠ pl ∧ r ≠ pl ∧ c' ≠ pl ∧ c2 ≠ pl ∧ c1 ≠ pl ∧ a11 ≠ pl)
  (hk : cs.kind = .function) (hd : dp + 1 < recursionLimit)
  (h : ∀ b' t' tp' h' tk', KBw.bInts b' = (ks.drop i.toNat).take n.toNat → Fr h₀ L h' m →
    News h₀ L h' [(a1, x1), (a2, x2), (a3, x3), (a4, x4), (a5, x5), (r, fnMade (Str.ofString "read") qual ps bd sc [(Str.ofString "place", c2), (Str.ofString "octets", c1)] doc pm c' ctv), (c', oc), (pl, W.listOf #[.int (i + n) tp'] np), (c2, o2), (c1, o1), (a11, x11)] → Q (.bytes b' t') { s with heap := h', toks := tk' }) :
  wpAny (model PySem.Challenge.rw_mr0066_01.row.prog w) (ktrTop dp un gd cn cs L a ccd cl outer) (call (.ref r) [.int n tn]) Q E s := by
  revert X; k_fill; intro X
  injection hR with h1 h2
  injection h2 with h2 h3
  subst h1 h2 h3
  w_on
  refine wpAny_call ?_
  k_dflt (refine' code_nest ?k1 ?k2 ?k3 ?k4 ?k5 ?kA ?kF ?kK ?k6 ?k7 ?k8 ?k9 ?kB ?_ ?c2 ?c3 ?c4 ?c5; (case kA => exact rfl); (case kF => exact rfl); (case kK => assumption); (case k1 => k_asm); (case k2 => k_asm); (case k3 => k_asm); (case k4 => k_asm); (case k5 => k_asm); (case k6 => k_mem); (case k7 => exact codeRec_news (by k_asm) (by k_mem) (by assumption) (by assumption)); (case k8 => k_room); (case k9 => exact BindsTo.of_eq rfl); (case c5 => decide); (case kB => exact locs rfl); (case c2 => exact rfl); (case c3 => exact rfl); (case c4 => exact rfl); k_whole; intro g' L' h' FG' F' N' B' X' T'; (try dsimp only); (try k_lift B'); (try k_fold))
  k_steps
  exact h _ _ _ _ _ ((KBc.ints_picked hb _ _).trans (clip_take ks hi0 hn0)) (by k_asm) (by k_asm)
end Mine
/-! part D1 -/
namespace Mine
open Builtin
theorem road_latin {id : String} {b : Array UInt8} : _codecs.decodeRoad id b (PySem.Str.ofString "latin-1") none [] = (_codecs.runDecoder id _codecs.latin1Decoder none true b 0 [] >>= fun r => mkStr ⟨r.1⟩) := by kernel_rfl
theorem args_dec2 (a b : Value) : argsOk "bytes.decode" ⟨[a, b], []⟩ := by unfold argsOk; kernel_rfl
theorem entry_lat {c : UInt8} {cs : List UInt8} {t u : Tok} : «bytes.decode» ⟨[.bytes (c :: cs).toArray t, .str (PySem.Str.ofString "latin-1") u], []⟩ = (mkStr (PySem.Str.ofString "utf-8") >>= fun _ => mkStr (PySem.Str.ofString "latin-1") >>= fun e => mkStr (PySem.Str.ofString "bytes.decode") >>= fun d =>
    call (.builtin "_codecs.decode.text") [.bytes (c :: cs).toArray t, e, .none, d] >>= fun v => ret v) := by kernel_rfl
theorem entry_lat0 {t u : Tok} : «bytes.decode» ⟨[.bytes ([] : List UInt8).toArray t, .str (PySem.Str.ofString "latin-1") u], []⟩ = (rule "bytes.decode.empty" >>= fun _ => retStr Str.empty) := by kernel_rfl
theorem lat_loop (b : Array UInt8) (hz : b.size ≤ sizeLine) (st : _codecs.Faults) : ∀ (l : List Nat) (j : Nat) (out : Array Nat), j + l.length = b.size → out = ((b.toList.take j).map (·.toNat)).toArray →
    (forIn l (j, out, st) fun _ r =>
      (if r.snd.fst.size > sizeLine then do
        let _ ← (unsupported "str:memory" : Sem PUnit)
        if r.fst ≥ b.size then pure (ForInStep.done (r.fst, r.snd.fst, r.snd.snd))
          else pure (ForInStep.yield (r.fst + 1, r.snd.fst ++ #[(b.getD r.fst 0).toNat], r.snd.snd))
      else
        if r.fst ≥ b.size then pure (ForInStep.done (r.fst, r.snd.fst, r.snd.snd))
        else pure (ForInStep.yield (r.fst + 1, r.snd.fst ++ #[(b.getD r.fst 0).toNat], r.snd.snd)) : Sem _)) = pure (b.size, b.map (·.toNat), st)
  | [], j, out, hj, ho => by
    have e : j = b.size := by simpa using hj
    subst e
    rw [List.forIn_nil, ho, ← Array.length_toList, List.take_length]
    congr 2
    apply congrArg (fun z => (z, st))
    apply Array.toList_inj.mp
    simp
  | x :: l, j, out, hj, ho => by
    rw [List.length_cons] at hj
    have hlt : j < b.size := by omega
    have hs : out.size = j := by rw [ho, List.size_toArray, List.length_map, List.length_take, Array.length_toList]; omega
    rw [List.forIn_cons]
    dsimp only
    rw [if_neg (by rw [hs]; omega), if_neg (by omega), pure_bind]
    refine lat_loop b hz st l (j + 1) _ (by omega) ?_
    rw [ho, List.take_add_one]
    apply Array.toList_inj.mp
    simp [Array.getD, hlt]
theorem run_latin (id : String) (b : Array UInt8) (hz : b.size ≤ sizeLine) : _codecs.runDecoder id _codecs.latin1Decoder none true b 0 [] = pure (b.map (·.toNat), b.size) := by
  unfold _codecs.runDecoder
  simp only [_codecs.latin1Decoder, _codecs.Found.char, Std.Legacy.Range.forIn_eq_forIn_range', Std.Legacy.Range.size]
  have z := lat_loop b hz {} (List.range' 0 ((b.size - 0 + 1 - 1) / 1)) 0 #[] (by simp) (by simp)
  erw [z]
  rfl
def latin (ks : List Int) : Str := ⟨(ks.map (·.toNat)).toArray⟩
theorem latin_of (b : Array UInt8) : (⟨b.map (·.toNat)⟩ : Str) = latin (KBw.bInts b) := by
  unfold latin KBw.bInts
  congr 1
  apply Array.toList_inj.mp
  simp
theorem meets_lat_text {b : Array UInt8} {t t1 t2 : Tok} {d : PySem.Str} :
    Meets («_codecs.decode.text» ⟨[.bytes b t, .str (PySem.Str.ofString "latin-1") t1, .none, .str d t2], []⟩) (fun _ R s => b.size ≤ sizeLine ∧ R (.ok (.ret (.str ⟨b.map (·.toNat)⟩ s.toks))) { s with toks := s.toks + 1 }) := by
  refine .of_wp fun prog w A R s hS => ?_
  obtain ⟨hsz, h⟩ := hS
  show wpAny _ _ (Bytes.bytesLike _ (.bytes b t) >>= fun r => _) _ _ s
  refine wpAny_bind (wpAny_of_eq KBd.like_eq ?_)
  refine wpAny_bind (wpAny_of_eq KBd.held_eq ?_)
  show wpAny _ _ (_codecs.decodeRoad _ b (PySem.Str.ofString "latin-1") none [] >>= fun v => _) _ _ s
  rw [road_latin, run_latin _ b hsz]
  refine wpAny_bind (wpAny_bind (wpAny_pure ?_))
  exact wpAny_mkStr (wpAny_pure ⟨_, rfl, h⟩) (by show (b.map (·.toNat)).size ≤ sizeLine; rw [Array.size_map]; exact hsz)
theorem meets_lat {b : Array UInt8} {t u : Tok} :
    Meets («bytes.decode» ⟨[.bytes b t, .str (PySem.Str.ofString "latin-1") u], []⟩) (fun _ R s => b.size ≤ sizeLine ∧ ∀ t' k, R (.ok (.ret (.str ⟨b.map (·.toNat)⟩ t'))) { s with toks := k }) := by
  refine .of_wp fun prog w A R s hS => ?_
  obtain ⟨hsz, h⟩ := hS
  obtain ⟨l⟩ := b
  cases l with
  | nil =>
    show wpAny _ _ («bytes.decode» ⟨[.bytes ([] : List UInt8).toArray t, .str (PySem.Str.ofString "latin-1") u], []⟩) _ _ s
    rw [entry_lat0]
    refine wpAny_bind (wpAny_rule ?_)
    unfold retStr
    have e : (⟨Array.map (fun x => x.toNat) (Array.mk ([] : List UInt8))⟩ : Str) = Str.empty := by
      unfold Str.empty
      congr 1; apply Array.toList_inj.mp; simp
    rw [e] at h
    exact wpAny_bind (wpAny_mkStr (wpAny_pure ⟨_, rfl, h _ _⟩) (by decide))
  | cons c cs =>
    show wpAny _ _ («bytes.decode» ⟨[.bytes (c :: cs).toArray t, .str (PySem.Str.ofString "latin-1") u], []⟩) _ _ s
    rw [entry_lat]
    refine wpAny_bind (wpAny_mkStr ?_ (by decide))
    refine wpAny_bind (wpAny_mkStr ?_ (by decide))
    refine wpAny_bind (wpAny_mkStr ?_ (by decide))
    exact wpAny_bind (call_function_meets KBd.kind_text KBd.plain_text KBd.entry_text (KBd.args_text _ _ _ _) meets_lat_text ⟨hsz, wpAny_pure ⟨_, rfl, h _ _⟩⟩)
section
variable {prog : Program} {w : World} {A : Around} {E : Value → Shared → Prop} {s : Shared}
theorem decode_latin {b : Array UInt8} {t u : Tok} {ks : List Int} {Q : Value → Shared → Prop} (hb : KBw.bInts b = ks) (hz : ks.length ≤ 1000) (h : ∀ t' k, Q (.str (latin ks) t') { s with toks := k }) :
    wpAny (model prog w) A (call (.builtin "bytes.decode") [.bytes b t, .str (PySem.Str.ofString "latin-1") u]) Q E s := by
  subst hb
  rw [KBw.ints_length] at hz
  refine call_meets FB.slot_bytes_decode (typeIs_bytes _ _ _) FB.entry_bytes_decode (args_dec2 _ _) meets_lat ⟨by rw [sizeLine_eq]; omega, fun t' k => ?_⟩
  rw [latin_of]
  exact h t' k
end
end Mine
/-! part C2 -/
namespace Mine
abbrev msg0 : Str := Str.ofString "not enough data in stream to read uint1"
local macro_rules | `(tactic| k_room) => `(tactic| first | exact Nat.le_of_ble_eq_true rfl | (dsimp only [Around.deeper]; omega))
local macro_rules | `(tactic| walk_at "getMethod ref") => `(tactic| (k_here; k_dflt (refine' getMethod_fn ?N ?f ?d ?_; (case N => k_asm); (case f => k_mem); (case d => k_mem); k_whole); intro tk'))
local macro_rules | `(tactic| walk_at "call ref") => `(tactic| (k_here; (try dsimp only [List.nil_append, List.cons_append]); (with_reducible show wpAny _ _ (call (Value.ref _) [Value.int _ _]) _ _ _); k_dflt (refine' read_c ?hR ?B ?F ?X ?T ?C ?N ?hoc ?hvs ?ho2 ?ho1 ?hb ?hks ?hi0 ?hi1 ?hn0 ?hn1 ?hne ?hk ?hd ?_; (case B => k_asm); (case F => k_asm); (case X => k_asm); (case T => k_asm); (case C => assumption); (case N => k_asm); (case hR => first | assumption | rfl); (case hoc => assumption); (case hvs => assumption); (case ho2 => assumption); (case ho1 => assumption); (case hb => assumption); (case hks => assumption); (case hi0 => omega); (case hi1 => omega); (case hn0 => omega); (case hn1 => omega); (case hne => omega); (case hk => first | rfl | assumption); (case hd => k_room)); intro b' t' tp' h' tk' hb' F' N'))
local macro_rules | `(tactic| walk_at "exec Raise some none") => `(tactic| (k_here; (with_reducible show wpAny _ _ (exec (Stmt.Raise (some (Expr.Call (Expr.Name ("ValueError" : Str) _) _ [] _)) none _) _) _ _ _); (with_reducible rename Fr _ _ _ _ => kF); (with_unfolding_all refine Raise_madeB PySem.F.excCall_ValueError PySem.F.excRaise_ValueError rfl ?_); k_dflt (refine' name_B kF ?k1 ?k2 ?k3 PyProof.Rows.Boot.«ValueError» ?k5 ?_; (case k1 => k_asm); (case k2 => k_asm); (case k3 => k_is); (case k5 => decide); k_whole); refine ⟨rfl, ?_⟩))
theorem getD_cut (ks : List Int) {i : Int} (_h : i < ks.length) : (List.take (Int.toNat 1) (List.drop i.toNat ks)).getD (Int.toNat 0) 0 = ks.getD i.toNat 0 := by
  simp [List.getD_eq_getElem?_getD, List.getElem?_take, List.getElem?_drop]
theorem u1_c {w : World} {p : Program} {loose : List Str} {mean : ExcName → Option Value} {mg mb : Str → Option Value} {dp un : Nat} {gd : Option (List Code)} {cn : Str} {cs : Scope} {a : Addr} {ccd : Value} {cl : List (Str × Addr)} {outer : List Env} {A₀ : Around} {base h₀ : Heap} {L : Addr} {m : Str → Option Value} {s : Shared} {Q E : Value → Shared → Prop}
  {ps : Arguments} {bd : List Stmt} {sc : Scope} {a1 a2 d f a5 a11 : Nat} {x1 x2 x5 x11 : Obj} {r c' pl c2 c1 : Nat} {qual : Str} {doc pm ctv : Value} {oc o2 o1 : Obj} {vs : Array Value} {tq tp tr bt : Tok} {np : Nat} {b : Array UInt8} {ks : List Int} {i : Int} {fd : FuncData}
  (hR : readP = (ps, bd, sc))
  (B : Below A₀ base outer h₀) (F : Fr h₀ L s.heap m) (X : (Mine.hd.heap_39 w.params).In h₀) (T : Top p loose mean mg mb h₀) (C : CodeHd base 78 74)
  (N : News h₀ L s.heap [(a1, x1), (a2, x2), (d, fd1 w.params tr (.ref r)), (f, (⟨.type "function", some d, .func fd, #[]⟩ : Obj)), (a5, x5), (r, fnMade (Str.ofString "read") qual ps bd sc [(Str.ofString "place", c2), (Str.ofString "octets", c1)] doc pm c' ctv), (c', oc), (pl, W.listOf #[.int i tp] np), (c2, o2), (c1, o1), (a11, x11)])
  (hoc : oc.data = .fields vs) (hvs : vs[1]? = some (.str qual tq)) (ho2 : o2.data = .cell (some (.ref pl))) (ho1 : o1.data = .cell (some (.bytes b bt)))
  (hb : KBw.bInts b = ks) (hks : ks.length ≤ 20) (hi0 : 0 ≤ i) (hi1 : i ≤ 500)
  (hne : a1 ≠ pl ∧ a2 ≠ pl ∧ d ≠ pl ∧ f ≠ pl ∧ a5 ≠ pl ∧ r ≠ pl ∧ c' ≠ pl ∧ c2 ≠ pl ∧ c1 ≠ pl ∧ a11 ≠ pl)
  (hk : cs.kind = .function) (hd : dp + 2 < recursionLimit)
  (h : ∀ t' tp' h' tk', i < ks.length → Fr h₀ L h' m →
    News h₀ L h' [(a1, x1), (a2, x2), (d, fd1 w.params tr (.ref r)), (f, (⟨.type "function", some d, .func fd, #[]⟩ : Obj)), (a5, x5), (r, fnMade (Str.ofString "read") qual ps bd sc [(Str.ofString "place", c2), (Str.ofString "octets", c1)] doc pm c' ctv), (c', oc), (pl, W.listOf #[.int (i + 1) tp'] np), (c2, o2), (c1, o1), (a11, x11)] →
    0 ≤ ks.getD i.toNat 0 → ks.getD i.toNat 0 < 256 → Q (.int (ks.getD i.toNat 0) t') { s with heap := h', toks := tk' })
  (hE : ∀ G e t tk tp' h' tk', ks.length ≤ i → Fr h₀ L G m → RaisedS base G (envX cn cs L a ccd cl :: outer) e (.type "ValueError") t [.str msg0 tk] [(a1, x1), (a2, x2), (d, fd1 w.params tr (.ref r)), (f, (⟨.type "function", some d, .func fd, #[]⟩ : Obj)), (a5, x5), (r, fnMade (Str.ofString "read") qual ps bd sc [(Str.ofString "place", c2), (Str.ofString "octets", c1)] doc pm c' ctv), (c', oc), (pl, W.listOf #[.int (i + 1) tp'] np), (c2, o2), (c1, o1), (a11, x11)] h' → G.UpToSlots h' →
    E (.ref e) { s with heap := h', toks := tk' }) :
  wpAny (model PySem.Challenge.rw_mr0066_01.row.prog w) (ktrTop dp un gd cn cs L a ccd cl outer) (call (.ref 28) [.ref f]) Q E s := by
  revert X; k_fill; intro X
  have D0 : KtsDicts [] h₀ := ktsDicts_nil
  w_on
  refine wpAny_call ?_
  k_dflt (refine' code_def ?k1 ?k2 ?k3 ?k4 ?k5 ?kA ?kF ?kK ?k6 ?k7 ?k8 ?k9 ?kB ?_ ?c2 ?c3 ?c4 ?c5; (case kA => exact rfl); (case kF => exact rfl); (case kK => assumption); (case k1 => k_asm); (case k2 => k_asm); (case k3 => k_asm); (case k4 => k_asm); (case k5 => k_asm); (case k6 => k_is); (case k7 => k_is); (case k8 => k_room); (case k9 => exact BindsTo.of_eq rfl); (case c5 => decide); (case kB => exact locs rfl); (case c2 => exact rfl); (case c3 => exact rfl); (case c4 => exact rfl); k_whole; intro g' L' h' FG' F' N' B' X' T'; (try dsimp only); (try k_lift B'); (try k_fold))
  k_steps
  · have hl : i < ks.length := by
      have e1 : Int.toNat 1 = 1 := rfl
      rw [e1] at *
      omega
    rw [getD_cut ks hl] at *
    exact h _ _ _ _ hl (by k_asm) (by k_asm) (by assumption) (by assumption)
  · have hl : (ks.length : Int) ≤ i := by
      have e1 : Int.toNat 1 = 1 := rfl
      rw [e1] at *
      omega
    exact hE _ _ _ _ _ _ _ hl FG' (by assumption) (by assumption)
/-! part C3 -/
local macro_rules | `(tactic| walk_at "call ref") => `(tactic| (k_here; (try dsimp only [List.nil_append, List.cons_append]); (with_reducible show wpAny _ _ (call (Value.ref 28) [Value.ref _]) _ _ _); k_dflt (refine' u1_c ?hR ?B ?F ?X ?T ?C ?N ?hoc ?hvs ?ho2 ?ho1 ?hb ?hks ?hi0 ?hi1 ?hne ?hk ?hd (fun t' tp' h' tk' hlt F' N' hlo hhi => ?_) (fun G' e' t' tk' tp' h' tk2' hle FG' S' U' => ?_); (case B => k_asm); (case F => k_asm); (case X => k_asm); (case T => k_asm); (case C => assumption); (case N => k_asm); (case hR => first | assumption | rfl); (case hoc => assumption); (case hvs => assumption); (case ho2 => assumption); (case ho1 => assumption); (case hb => assumption); (case hks => assumption); (case hi0 => omega); (case hi1 => omega); (case hne => omega); (case hk => first | rfl | assumption); (case hd => k_room)); (try dsimp only)))
local macro_rules | `(tactic| walk_at "call builtin:len") => `(tactic| (k_here; (try dsimp only [List.nil_append, List.cons_append]); (with_reducible show wpAny _ _ (call (Value.builtin "len") [Value.bytes _ _]) _ _ _); (refine KBw.len_K (by assumption) (by kba_size) ?_); (try simp only [List.length_take, List.length_drop])))
def msgN (kind : String) (n k : Int) : Str := Str.ofString "expected " ++ Str.ofString (toString n) ++ Str.ofString kind ++ Str.ofString (toString k) ++ Str.ofString " remain"
local macro_rules | `(tactic| walk_at "binaryOp Mod str ref") => `(tactic| (k_here; (with_reducible show wpAny _ _ (binaryOp Operator.Mod (Value.str _ _) (Value.ref _)) _ _ _); k_dflt (refine' KPt.mod_tuple ?kptN ?kptb ?kptF (meets_B ?h0 ?h1 ?k0 ?k1) ?_; (case kptN => k_asm); (case kptb => k_mem); (case kptF => decide +kernel); (case h0 => omega); (case h1 => omega); (case k0 => omega); (case k1 => omega)); intro _ _))
theorem RaisedS.sub {base G : Heap} {l : List Env} {e t : Addr} {cls : Value} {vs : List Value} {news news' : List (Addr × Obj)} {h : Heap} (R : RaisedS base G l e cls t vs news h) (hs : ∀ q ∈ news', q ∈ news) : RaisedS base G l e cls t vs news' h := by
  obtain ⟨⟨B, h1, h2, h3, h4⟩, h5⟩ := R
  exact ⟨⟨B, h1, h2, fun q hq => h3 q (hs q hq), h4⟩, h5⟩
theorem b1_c {w : World} {p : Program} {loose : List Str} {mean : ExcName → Option Value} {mg mb : Str → Option Value} {dp un : Nat} {gd : Option (List Code)} {cn : Str} {cs : Scope} {a : Addr} {ccd : Value} {cl : List (Str × Addr)} {outer : List Env} {A₀ : Around} {base h₀ : Heap} {L : Addr} {m : Str → Option Value} {s : Shared} {Q E : Value → Shared → Prop}
  {ps : Arguments} {bd : List Stmt} {sc : Scope} {a1 a2 d f a5 a11 : Nat} {x1 x2 x5 x11 : Obj} {r c' pl c2 c1 : Nat} {qual : Str} {doc pm ctv : Value} {oc o2 o1 : Obj} {vs : Array Value} {tq tp tr bt : Tok} {np : Nat} {b : Array UInt8} {ks : List Int} {i : Int} {fd : FuncData}
  (hR : readP = (ps, bd, sc))
  (B : Below A₀ base outer h₀) (F : Fr h₀ L s.heap m) (X : (Mine.hd.heap_39 w.params).In h₀) (T : Top p loose mean mg mb h₀) (C : CodeHd base 78 74)
  (N : News h₀ L s.heap [(a1, x1), (a2, x2), (d, fd1 w.params tr (.ref r)), (f, (⟨.type "function", some d, .func fd, #[]⟩ : Obj)), (a5, x5), (r, fnMade (Str.ofString "read") qual ps bd sc [(Str.ofString "place", c2), (Str.ofString "octets", c1)] doc pm c' ctv), (c', oc), (pl, W.listOf #[.int i tp] np), (c2, o2), (c1, o1), (a11, x11)])
  (hoc : oc.data = .fields vs) (hvs : vs[1]? = some (.str qual tq)) (ho2 : o2.data = .cell (some (.ref pl))) (ho1 : o1.data = .cell (some (.bytes b bt)))
  (hb : KBw.bInts b = ks) (hks : ks.length ≤ 20) (hi0 : 0 ≤ i) (hi1 : i ≤ 200)
  (hne : a1 ≠ pl ∧ a2 ≠ pl ∧ d ≠ pl ∧ f ≠ pl ∧ a5 ≠ pl ∧ r ≠ pl ∧ c' ≠ pl ∧ c2 ≠ pl ∧ c1 ≠ pl ∧ a11 ≠ pl)
  (hk : cs.kind = .function) (hd : dp + 3 < recursionLimit)
  (h : ∀ b' t' tp' h' tk', i < ks.length → i + 1 + ks.getD i.toNat 0 ≤ ks.length → 0 ≤ ks.getD i.toNat 0 → ks.getD i.toNat 0 < 256 → KBw.bInts b' = (ks.drop (i + 1).toNat).take (ks.getD i.toNat 0).toNat → Fr h₀ L h' m →
    News h₀ L h' [(a1, x1), (a2, x2), (d, fd1 w.params tr (.ref r)), (f, (⟨.type "function", some d, .func fd, #[]⟩ : Obj)), (a5, x5), (r, fnMade (Str.ofString "read") qual ps bd sc [(Str.ofString "place", c2), (Str.ofString "octets", c1)] doc pm c' ctv), (c', oc), (pl, W.listOf #[.int (i + 1 + ks.getD i.toNat 0) tp'] np), (c2, o2), (c1, o1), (a11, x11)] → Q (.bytes b' t') { s with heap := h', toks := tk' })
  (hE0 : ∀ G e t tk tp' h' tk', ks.length ≤ i → Fr h₀ L G m → RaisedS base G (envX cn cs L a ccd cl :: outer) e (.type "ValueError") t [.str msg0 tk] [(a1, x1), (a2, x2), (d, fd1 w.params tr (.ref r)), (f, (⟨.type "function", some d, .func fd, #[]⟩ : Obj)), (a5, x5), (r, fnMade (Str.ofString "read") qual ps bd sc [(Str.ofString "place", c2), (Str.ofString "octets", c1)] doc pm c' ctv), (c', oc), (pl, W.listOf #[.int (i + 1) tp'] np), (c2, o2), (c1, o1), (a11, x11)] h' → G.UpToSlots h' →
    E (.ref e) { s with heap := h', toks := tk' })
  (hE1 : ∀ G e t tk tp' h' tk', i < ks.length → ks.length < i + 1 + ks.getD i.toNat 0 → Fr h₀ L G m → RaisedS base G (envX cn cs L a ccd cl :: outer) e (.type "ValueError") t [.str (msgN " bytes in a bytes1, but only " (ks.getD i.toNat 0) (ks.length - (i + 1))) tk] [(a1, x1), (a2, x2), (d, fd1 w.params tr (.ref r)), (f, (⟨.type "function", some d, .func fd, #[]⟩ : Obj)), (a5, x5), (r, fnMade (Str.ofString "read") qual ps bd sc [(Str.ofString "place", c2), (Str.ofString "octets", c1)] doc pm c' ctv), (c', oc), (pl, W.listOf #[.int (i + 1 + ks.getD i.toNat 0) tp'] np), (c2, o2), (c1, o1), (a11, x11)] h' → G.UpToSlots h' →
    E (.ref e) { s with heap := h', toks := tk' }) :
  wpAny (model PySem.Challenge.rw_mr0066_01.row.prog w) (ktrTop dp un gd cn cs L a ccd cl outer) (call (.ref 42) [.ref f]) Q E s := by
  revert X; k_fill; intro X
  have D0 : KtsDicts [] h₀ := ktsDicts_nil
  w_on
  refine wpAny_call ?_
  k_dflt (refine' code_def ?k1 ?k2 ?k3 ?k4 ?k5 ?kA ?kF ?kK ?k6 ?k7 ?k8 ?k9 ?kB ?_ ?c2 ?c3 ?c4 ?c5; (case kA => exact rfl); (case kF => exact rfl); (case kK => assumption); (case k1 => k_asm); (case k2 => k_asm); (case k3 => k_asm); (case k4 => k_asm); (case k5 => k_asm); (case k6 => k_is); (case k7 => k_is); (case k8 => k_room); (case k9 => exact BindsTo.of_eq rfl); (case c5 => decide); (case kB => exact locs rfl); (case c2 => exact rfl); (case c3 => exact rfl); (case c4 => exact rfl); k_whole; intro g' L' h' FG' F' N' B' X' T'; (try dsimp only); (try k_lift B'); (try k_fold))
  k_steps
  · exact h _ _ _ _ _ (by assumption) (by omega) (by assumption) (by assumption) (by assumption) (by k_asm) (by k_asm)
  · rename RaisedS _ _ _ _ _ _ _ _ _ => S9
    have e9 : ((min (ks.getD i.toNat 0).toNat (ks.length - (i + 1).toNat) : Nat) : Int) = (ks.length : Int) - (i + 1) := by omega
    rw [e9] at S9
    exact hE1 _ _ _ _ _ _ _ (by assumption) (by omega) FG' (RaisedS.sub S9 (fun q hq => List.Mem.tail _ hq)) (by assumption)
  · exact hE0 _ _ _ _ _ _ _ (by assumption) (by assumption) (by assumption) (by assumption)
/-! part C4 -/
local macro_rules | `(tactic| walk_at "call builtin:bytes.decode") => `(tactic| (k_here; (try dsimp only [List.nil_append, List.cons_append]); (with_reducible show wpAny _ _ (call (Value.builtin "bytes.decode") [Value.bytes _ _, Value.str _ _]) _ _ _); (refine decode_latin (by assumption) (by (simp only [List.length_take, List.length_drop]; omega)) ?_); intro _ _))
local macro_rules | `(tactic| walk_at "binaryOp Mod str ref") => `(tactic| (k_here; (with_reducible show wpAny _ _ (binaryOp Operator.Mod (Value.str _ _) (Value.ref _)) _ _ _); k_dflt (refine' KPt.mod_tuple ?kptN ?kptb ?kptF (meets_S ?h0 ?h1 ?k0 ?k1) ?_; (case kptN => k_asm); (case kptb => k_mem); (case kptF => decide +kernel); (case h0 => omega); (case h1 => omega); (case k0 => omega); (case k1 => omega)); intro _ _))
theorem s1_c {w : World} {p : Program} {loose : List Str} {mean : ExcName → Option Value} {mg mb : Str → Option Value} {dp un : Nat} {gd : Option (List Code)} {cn : Str} {cs : Scope} {a : Addr} {ccd : Value} {cl : List (Str × Addr)} {outer : List Env} {A₀ : Around} {base h₀ : Heap} {L : Addr} {m : Str → Option Value} {s : Shared} {Q E : Value → Shared → Prop}
  {ps : Arguments} {bd : List Stmt} {sc : Scope} {a1 a2 d f a5 a11 : Nat} {x1 x2 x5 x11 : Obj} {r c' pl c2 c1 : Nat} {qual : Str} {doc pm ctv : Value} {oc o2 o1 : Obj} {vs : Array Value} {tq tp tr bt : Tok} {np : Nat} {b : Array UInt8} {ks : List Int} {i : Int} {fd : FuncData}
  (hR : readP = (ps, bd, sc))
  (B : Below A₀ base outer h₀) (F : Fr h₀ L s.heap m) (X : (Mine.hd.heap_39 w.params).In h₀) (T : Top p loose mean mg mb h₀) (C : CodeHd base 78 74)
  (N : News h₀ L s.heap [(a1, x1), (a2, x2), (d, fd1 w.params tr (.ref r)), (f, (⟨.type "function", some d, .func fd, #[]⟩ : Obj)), (a5, x5), (r, fnMade (Str.ofString "read") qual ps bd sc [(Str.ofString "place", c2), (Str.ofString "octets", c1)] doc pm c' ctv), (c', oc), (pl, W.listOf #[.int i tp] np), (c2, o2), (c1, o1), (a11, x11)])
  (hoc : oc.data = .fields vs) (hvs : vs[1]? = some (.str qual tq)) (ho2 : o2.data = .cell (some (.ref pl))) (ho1 : o1.data = .cell (some (.bytes b bt)))
  (hb : KBw.bInts b = ks) (hks : ks.length ≤ 20) (hi0 : 0 ≤ i) (hi1 : i ≤ 200)
  (hne : a1 ≠ pl ∧ a2 ≠ pl ∧ d ≠ pl ∧ f ≠ pl ∧ a5 ≠ pl ∧ r ≠ pl ∧ c' ≠ pl ∧ c2 ≠ pl ∧ c1 ≠ pl ∧ a11 ≠ pl)
  (hk : cs.kind = .function) (hd : dp + 3 < recursionLimit)
  (h : ∀ t' tp' h' tk', i < ks.length → i + 1 + ks.getD i.toNat 0 ≤ ks.length → 0 ≤ ks.getD i.toNat 0 → ks.getD i.toNat 0 < 256 → Fr h₀ L h' m →
    News h₀ L h' [(a1, x1), (a2, x2), (d, fd1 w.params tr (.ref r)), (f, (⟨.type "function", some d, .func fd, #[]⟩ : Obj)), (a5, x5), (r, fnMade (Str.ofString "read") qual ps bd sc [(Str.ofString "place", c2), (Str.ofString "octets", c1)] doc pm c' ctv), (c', oc), (pl, W.listOf #[.int (i + 1 + ks.getD i.toNat 0) tp'] np), (c2, o2), (c1, o1), (a11, x11)] → Q (.str (latin ((ks.drop (i + 1).toNat).take (ks.getD i.toNat 0).toNat)) t') { s with heap := h', toks := tk' })
  (hE0 : ∀ G e t tk tp' h' tk', ks.length ≤ i → Fr h₀ L G m → RaisedS base G (envX cn cs L a ccd cl :: outer) e (.type "ValueError") t [.str msg0 tk] [(a1, x1), (a2, x2), (d, fd1 w.params tr (.ref r)), (f, (⟨.type "function", some d, .func fd, #[]⟩ : Obj)), (a5, x5), (r, fnMade (Str.ofString "read") qual ps bd sc [(Str.ofString "place", c2), (Str.ofString "octets", c1)] doc pm c' ctv), (c', oc), (pl, W.listOf #[.int (i + 1) tp'] np), (c2, o2), (c1, o1), (a11, x11)] h' → G.UpToSlots h' →
    E (.ref e) { s with heap := h', toks := tk' })
  (hE1 : ∀ G e t tk tp' h' tk', i < ks.length → ks.length < i + 1 + ks.getD i.toNat 0 → Fr h₀ L G m → RaisedS base G (envX cn cs L a ccd cl :: outer) e (.type "ValueError") t [.str (msgN " bytes in a string1, but only " (ks.getD i.toNat 0) (ks.length - (i + 1))) tk] [(a1, x1), (a2, x2), (d, fd1 w.params tr (.ref r)), (f, (⟨.type "function", some d, .func fd, #[]⟩ : Obj)), (a5, x5), (r, fnMade (Str.ofString "read") qual ps bd sc [(Str.ofString "place", c2), (Str.ofString "octets", c1)] doc pm c' ctv), (c', oc), (pl, W.listOf #[.int (i + 1 + ks.getD i.toNat 0) tp'] np), (c2, o2), (c1, o1), (a11, x11)] h' → G.UpToSlots h' →
    E (.ref e) { s with heap := h', toks := tk' }) :
  wpAny (model PySem.Challenge.rw_mr0066_01.row.prog w) (ktrTop dp un gd cn cs L a ccd cl outer) (call (.ref 35) [.ref f]) Q E s := by
  revert X; k_fill; intro X
  have D0 : KtsDicts [] h₀ := ktsDicts_nil
  w_on
  refine wpAny_call ?_
  k_dflt (refine' code_def ?k1 ?k2 ?k3 ?k4 ?k5 ?kA ?kF ?kK ?k6 ?k7 ?k8 ?k9 ?kB ?_ ?c2 ?c3 ?c4 ?c5; (case kA => exact rfl); (case kF => exact rfl); (case kK => assumption); (case k1 => k_asm); (case k2 => k_asm); (case k3 => k_asm); (case k4 => k_asm); (case k5 => k_asm); (case k6 => k_is); (case k7 => k_is); (case k8 => k_room); (case k9 => exact BindsTo.of_eq rfl); (case c5 => decide); (case kB => exact locs rfl); (case c2 => exact rfl); (case c3 => exact rfl); (case c4 => exact rfl); k_whole; intro g' L' h' FG' F' N' B' X' T'; (try dsimp only); (try k_lift B'); (try k_fold))
  k_steps
  · exact h _ _ _ _ (by assumption) (by omega) (by assumption) (by assumption) (by k_asm) (by k_asm)
  · rename RaisedS _ _ _ _ _ _ _ _ _ => S9
    have e9 : ((min (ks.getD i.toNat 0).toNat (ks.length - (i + 1).toNat) : Nat) : Int) = (ks.length : Int) - (i + 1) := by omega
    rw [e9] at S9
    exact hE1 _ _ _ _ _ _ _ (by assumption) (by omega) FG' (RaisedS.sub S9 (fun q hq => List.Mem.tail _ hq)) (by assumption)
  · exact hE0 _ _ _ _ _ _ _ (by assumption) (by assumption) (by assumption) (by assumption)
end Mine
/-! part E1 -/
namespace Mine
def KeptBut (h h' : Heap) (adr : List Addr) (L : Addr) : Prop := (∀ b o, h.get? b = some o → b ∉ adr → b ≠ L → h'.get? b = some o) ∧ ∀ o, h.get? L = some o → ∃ sl, h'.get? L = some { o with slots := sl }
def LeaveT (h : Heap) (adr : List Addr) (fs : List Addr) (h₀ : Heap) (L : Addr) (m : Str → Option Value) (g : Heap) (R : Result → Shared → Prop) (v : Value) (s' : Shared) : Prop :=
  ∃ g' L' m' news', KtsTurn fs g g' ∧ Fr g' L' s'.heap m' ∧ News g' L' s'.heap news' ∧ (Fr h₀ L s'.heap m → News h₀ L s'.heap news' → KeptBut h s'.heap adr L → (∀ p ∈ news', p.1 ∈ adr ∨ h.get? p.1 = none) → R (.ok (.ret v)) s')
theorem leaveT_ {h : Heap} {adr fs : List Addr} {h₀ g g' : Heap} {L L' : Addr} {m m' : Str → Option Value} {news' : List (Addr × Obj)} {R : Result → Shared → Prop} {v : Value} {s' : Shared} (F' : Fr g' L' s'.heap m') (N' : News g' L' s'.heap news') (T : KtsTurn fs g g')
    (k : Fr h₀ L s'.heap m → News h₀ L s'.heap news' → KeptBut h s'.heap adr L → (∀ p ∈ news', p.1 ∈ adr ∨ h.get? p.1 = none) → R (.ok (.ret v)) s') : LeaveT h adr fs h₀ L m g R v s' := ⟨g', L', m', news', T, F', N', k⟩
section
variable {prog : Program} {w : World} {A₀ A : Around} {s : Shared} {base h₀ : Heap} {L : Addr} {m : Str → Option Value} {env : Env} {news : List (Addr × Obj)} {K : Frag} {p : Program} {loose : List Str} {mean : ExcName → Option Value} {mg mb : Str → Option Value}
    {R : Result → Shared → Prop} {name qual : Str} {params : Arguments} {body : List Stmt} {scope : Scope} {dV kV doc pm cdv ct oc : Value} {an od : Option Addr} {osl : Array (Option Value)} {f : Addr} {args : Args} {binds : List (Str × Value)}
theorem code_defT (B : Below A₀ base [] h₀) (F : Fr h₀ L s.heap m) (X₀ : K.In h₀) (N : News h₀ L s.heap news) (T : Top p loose mean mg mb h₀) (hA : A.frames = some [env]) (hf : env.frame = some L) (hke : env.scope.kind = .function)
    (ho : K.lookup f = some ⟨oc, od, .func (fnOf name qual params body scope dV kV doc pm an cdv ct), osl⟩) (hcd : codeIn K cdv qual = true) (hroom : A.depth < recursionLimit)
    (hbind : BindsTo s (fnOf name qual params body scope dV kV doc pm an cdv ct) args binds) (hloc : ∀ y ∈ binds, scope.names.lookup y.1 = some .local)
    (h : ∀ g L' h₁, Fr h₀ L g m → Fr g L' h₁ (fun y => binds.reverse.lookup y) → News g L' h₁ news → Below A base [env] g → K.In g → Top p loose mean mg mb g → KtsDicts ([env].filterMap (·.frame)) g →
      wpAny (model prog w) (A.deeper (envOf qual scope L' f cdv)) (execs body (envOf qual scope L' f cdv))
        (fun fl s' => LeaveT s.heap (news.map (·.1)) ([env].filterMap (·.frame)) h₀ L m g R (match fl with | .ret v => v | _ => .none) s')
        (fun e s' => wpAny (model prog w) (A.deeper (envOf qual scope L' f cdv)) (leaving (envOf qual scope L' f cdv) e) (fun _ s'' => R (.error e) s'') (fun e' s'' => R (.error e') s'') s')
        { s with heap := h₁, toks := s.toks + binds.length })
    (hco : scope.isCoroutine = false) (hgen : scope.isGenerator = false) (hk : scope.kind = .function)
    (hcell : ∀ x ∈ scope.names, x.2 ≠ .cell) : codeAny (model prog w) A (.call (.ref f) args) R s := by
  have X := X₀.keeps F.keep
  obtain ⟨FG, BG, st, _⟩ := groundX (R := R) B F N hA hf hke
  have hfs : [env].filterMap (·.frame) = [L] := by simp [hf]
  have nL : L ∉ news.map (·.1) := fun q => by
    obtain ⟨p, hp, e⟩ := List.mem_map.mp q
    exact (N p hp).2.1 e
  obtain ⟨oL, es, ep, hLg, hLd, hLk, hLf⟩ := FG.ns
  have hLs : s.heap.get? L = some oL := of_hideAll _ hLg
  refine codeAny_call_def (fd := fnOf name qual params body scope dV kV doc pm an cdv ct) (body := body) (binds := binds) hroom (X _ _ ho) rfl (T.nolimit.keeps F.keep) (codeRec_of X hcd) rfl hbind hcell hloc (fun h₁ hns hk₁ => ?_) hco hgen hk
  refine wpAny_mono (h _ s.heap.objs.size h₁ FG ⟨hns, fun b o e => hk₁ b o (of_hideAll _ e), Nat.le_of_eq (hideAll_size _ _)⟩
    (fun p hp => ⟨hk₁ _ _ (N p hp).1, Nat.ne_of_lt (Heap.lt_size (N p hp).1), hideAll_none _ (List.mem_map_of_mem hp)⟩) BG (X₀.keeps st) (T.keeps st) (fun b hb => by
      rw [hfs] at hb
      rw [List.mem_singleton.mp hb]
      exact ⟨oL, es, ep, hLg, hLd⟩)) (fun fl s' hl => ?_) fun _ _ y => y
  obtain ⟨g', L', m', news', T', F', N', k⟩ := hl
  rw [hfs] at T'
  have nL₀ : h₀.get? L = none := kts_self F
  obtain ⟨sl, hs⟩ := T'.up hLg
  refine k ⟨⟨_, es, ep, F'.keep _ _ hs, hLd, hLk, hLf⟩, fun b o e => F'.keep b o (T'.other b o (st b o e) (fun q => by
    rw [List.mem_singleton.mp q, nL₀] at e
    cases e)), F.above⟩ (fun p hp => ⟨(N' p hp).1, fun q => ?_, ?_⟩) ⟨fun b o e hb hL => F'.keep b o (T'.other b o (hideAll_get _ e hb) (fun q => hL (List.mem_singleton.mp q))), fun o e => ?_⟩ (fun p hp => ?_)
  · have := (N' p hp).2.2; rw [q, hs] at this; cases this
  · cases q : h₀.get? p.1 with
    | none => rfl
    | some o =>
      obtain ⟨sl', hs'⟩ := T'.up (st _ _ q)
      have := (N' p hp).2.2
      rw [hs'] at this
      cases this
  · rw [hLs] at e
    cases e
    exact ⟨sl, F'.keep _ _ hs⟩
  · cases q : s.heap.get? p.1 with
    | none => exact .inr rfl
    | some o =>
      by_cases hb : p.1 ∈ news.map (·.1)
      · exact .inl hb
      · obtain ⟨sl', hs'⟩ := T'.up (hideAll_get _ q hb)
        have := (N' p hp).2.2
        rw [hs'] at this
        cases this
end
end Mine
/-! part P1 -/
namespace Mine
/-- one thing told: a number, octets, a text -/
inductive Item where
  | num (i : Int)
  | oct (ks : List Int)
  | txt (s : Str)
/-- a value that bears it -/
inductive ItemV : Value → Item → Prop
  | num {i : Int} {t : Tok} : ItemV (.int i t) (.num i)
  | oct {b : Array UInt8} {t : Tok} {ks : List Int} : KBw.bInts b = ks → ItemV (.bytes b t) (.oct ks)
  | txt {s : Str} {t : Tok} : ItemV (.str s t) (.txt s)
inductive ItemsV : List Value → List Item → Prop
  | nil : ItemsV [] []
  | cons {v : Value} {x : Item} {vs : List Value} {xs : List Item} : ItemV v x → ItemsV vs xs → ItemsV (v :: vs) (x :: xs)
theorem ItemsV.snoc {v : Value} {x : Item} (h : ItemV v x) : ∀ {vs : List Value} {xs : List Item}, ItemsV vs xs → ItemsV (vs ++ [v]) (xs ++ [x])
  | _, _, .nil => .cons h .nil
  | _, _, .cons a r => .cons a (r.snoc h)
theorem ItemsV.length : ∀ {vs : List Value} {xs : List Item}, ItemsV vs xs → vs.length = xs.length
  | _, _, .nil => rfl
  | _, _, .cons _ r => by rw [List.length_cons, List.length_cons, r.length]
def kindWords (k : Nat) : String := if k = 1 then " bytes in a bytes1, but only " else " bytes in a string1, but only "
/-- what is told of the octets r, the next thing being of kind k -/
noncomputable def toldM (k : Nat) (r : List Int) : List Item := match r with
  | [] => [.txt msg0]
  | x :: r => if k = 0 then .num x :: toldM 1 r
    else if r.length < x.toNat then [.txt (msgN (kindWords k) x r.length)]
    else (if k = 1 then .oct (r.take x.toNat) else .txt (latin (r.take x.toNat))) :: toldM (if k = 1 then 2 else 0) (r.drop x.toNat)
termination_by r.length
decreasing_by
  · simp
  · simp only [List.length_drop, List.length_cons]; omega
theorem toldM_nil (k : Nat) : toldM k [] = [.txt msg0] := by rw [toldM]
theorem toldM_0 (x : Int) (r : List Int) : toldM 0 (x :: r) = .num x :: toldM 1 r := by rw [toldM]; simp
theorem toldM_1 (x : Int) (r : List Int) (h : x.toNat ≤ r.length) : toldM 1 (x :: r) = .oct (r.take x.toNat) :: toldM 2 (r.drop x.toNat) := by
  rw [toldM, if_neg (by decide), if_neg (by omega), if_pos rfl, if_pos rfl]
theorem toldM_1e (x : Int) (r : List Int) (h : r.length < x.toNat) : toldM 1 (x :: r) = [.txt (msgN " bytes in a bytes1, but only " x r.length)] := by
  rw [toldM, if_neg (by decide), if_pos h]; rfl
theorem toldM_2 (x : Int) (r : List Int) (h : x.toNat ≤ r.length) : toldM 2 (x :: r) = .txt (latin (r.take x.toNat)) :: toldM 0 (r.drop x.toNat) := by
  rw [toldM, if_neg (by decide), if_neg (by omega), if_neg (by decide), if_neg (by decide)]
theorem toldM_2e (x : Int) (r : List Int) (h : r.length < x.toNat) : toldM 2 (x :: r) = [.txt (msgN " bytes in a string1, but only " x r.length)] := by
  rw [toldM, if_neg (by decide), if_pos h]; rfl
-- by places: at place i (0 ≤ i) of ks
theorem drop_at (ks : List Int) {i : Int} (h0 : 0 ≤ i) (h : i < ks.length) : ks.drop i.toNat = ks.getD i.toNat 0 :: ks.drop (i + 1).toNat := by
  have hl : i.toNat < ks.length := by omega
  have e : (i + 1).toNat = i.toNat + 1 := by omega
  rw [e, List.drop_eq_getElem_cons hl, List.getD_eq_getElem?_getD, List.getElem?_eq_getElem hl]
  rfl
theorem drop_end (ks : List Int) {i : Int} (h : (ks.length : Int) ≤ i) : ks.drop i.toNat = [] := List.drop_of_length_le (by omega)
theorem told_end (k : Nat) (ks : List Int) {i : Int} (h : (ks.length : Int) ≤ i) : toldM k (ks.drop i.toNat) = [.txt msg0] := by rw [drop_end ks h, toldM_nil]
theorem told_0 (ks : List Int) {i : Int} (h0 : 0 ≤ i) (h : i < ks.length) : toldM 0 (ks.drop i.toNat) = .num (ks.getD i.toNat 0) :: toldM 1 (ks.drop (i + 1).toNat) := by rw [drop_at ks h0 h, toldM_0]
theorem told_1 (ks : List Int) {i : Int} (h0 : 0 ≤ i) (h : i < ks.length) (hn : 0 ≤ ks.getD i.toNat 0) (hle : i + 1 + ks.getD i.toNat 0 ≤ ks.length) :
    toldM 1 (ks.drop i.toNat) = .oct ((ks.drop (i + 1).toNat).take (ks.getD i.toNat 0).toNat) :: toldM 2 (ks.drop (i + 1 + ks.getD i.toNat 0).toNat) := by
  rw [drop_at ks h0 h, toldM_1 _ _ (by rw [List.length_drop]; omega), List.drop_drop]
  have e : (i + 1).toNat + (ks.getD i.toNat 0).toNat = (i + 1 + ks.getD i.toNat 0).toNat := by omega
  rw [e]
theorem told_2 (ks : List Int) {i : Int} (h0 : 0 ≤ i) (h : i < ks.length) (hn : 0 ≤ ks.getD i.toNat 0) (hle : i + 1 + ks.getD i.toNat 0 ≤ ks.length) :
    toldM 2 (ks.drop i.toNat) = .txt (latin ((ks.drop (i + 1).toNat).take (ks.getD i.toNat 0).toNat)) :: toldM 0 (ks.drop (i + 1 + ks.getD i.toNat 0).toNat) := by
  rw [drop_at ks h0 h, toldM_2 _ _ (by rw [List.length_drop]; omega), List.drop_drop]
  have e : (i + 1).toNat + (ks.getD i.toNat 0).toNat = (i + 1 + ks.getD i.toNat 0).toNat := by omega
  rw [e]
theorem told_1e (ks : List Int) {i : Int} (h0 : 0 ≤ i) (h : i < ks.length) (hle : ks.length < i + 1 + ks.getD i.toNat 0) :
    toldM 1 (ks.drop i.toNat) = [.txt (msgN " bytes in a bytes1, but only " (ks.getD i.toNat 0) (ks.length - (i + 1)))] := by
  rw [drop_at ks h0 h, toldM_1e _ _ (by rw [List.length_drop]; omega), List.length_drop]
  have e : ((ks.length - (i + 1).toNat : Nat) : Int) = ks.length - (i + 1) := by omega
  rw [e]
theorem told_2e (ks : List Int) {i : Int} (h0 : 0 ≤ i) (h : i < ks.length) (hle : ks.length < i + 1 + ks.getD i.toNat 0) :
    toldM 2 (ks.drop i.toNat) = [.txt (msgN " bytes in a string1, but only " (ks.getD i.toNat 0) (ks.length - (i + 1)))] := by
  rw [drop_at ks h0 h, toldM_2e _ _ (by rw [List.length_drop]; omega), List.length_drop]
  have e : ((ks.length - (i + 1).toNat : Nat) : Int) = ks.length - (i + 1) := by omega
  rw [e]
end Mine
/-! part L1 -/
namespace Mine
def loopOf (x : Stmt) : Stmt × Scope := match x with
  | PySem.Stmt.FunctionDef _ _ body _ _ _ sc _ _ _ => match body[1]? with
    | some (PySem.Stmt.Try b _ _ _ _) => match b[0]? with
      | some y => (y, sc)
      | none => (default, default)
    | _ => (default, default)
  | _ => (default, default)
def loopP : Stmt × Scope := match PySem.Challenge.pw_mr0066_01.main.body[15]? with
  | some x => loopOf x
  | none => (default, default)
local macro_rules | `(tactic| k_ne) => `(tactic| (refine neN ?_; (try dsimp only); first | assumption | (refine Ne.symm ?_; assumption) | omega))
local macro_rules | `(tactic| k_room) => `(tactic| first | exact Nat.le_of_ble_eq_true rfl | omega | (dsimp only [Around.deeper]; omega))
local macro_rules | `(tactic| walk_at "call builtin:list.append") => `(tactic| (k_here; (try dsimp only [List.nil_append, List.cons_append]); (with_reducible show wpAny _ _ (call (Value.builtin _) [Value.ref _, _]) _ _ _); k_dflt (refine' append_K ?k1 ?k2 ?k3 ?_ ?z; (case k1 => k_asm); (case k2 => k_asm); (case k3 => k_upd); (case z => (simp only [Array.size_push, List.size_toArray, sizeLine_eq]; omega)); k_whole); intro h' F' N'))
local macro_rules | `(tactic| walk_at "call ref") => `(tactic| (k_here; (try dsimp only [List.nil_append, List.cons_append]); (with_reducible show wpAny _ _ (call (Value.ref 28) [Value.ref _]) _ _ _); k_dflt (refine' u1_c ?hR ?B ?F ?X ?T ?C ?N ?hoc ?hvs ?ho2 ?ho1 ?hb ?hks ?hi0 ?hi1 ?hne ?hk ?hd (fun t' tp' h' tk' hlt F' N' hlo hhi => ?_) (fun G' e' t' tk' tp' h' tk2' hle FG' S' U' => ?_); (case B => k_asm); (case F => k_asm); (case X => k_asm); (case T => k_asm); (case C => assumption); (case N => k_asm); (case hR => first | assumption | rfl); (case hoc => assumption); (case hvs => assumption); (case ho2 => assumption); (case ho1 => first | assumption | (simp only [*]; rfl)); (case hb => assumption); (case hks => assumption); (case hi0 => omega); (case hi1 => omega); (case hne => (refine ⟨?_, ?_, ?_, ?_, ?_, ?_, ?_, ?_, ?_, ?_⟩ <;> assumption)); (case hk => first | rfl | assumption); (case hd => k_room)); (try dsimp only)))
local macro_rules | `(tactic| walk_at "call ref") => `(tactic| (k_here; (try dsimp only [List.nil_append, List.cons_append]); (with_reducible show wpAny _ _ (call (Value.ref 42) [Value.ref _]) _ _ _); k_dflt (refine' b1_c ?hR ?B ?F ?X ?T ?C ?N ?hoc ?hvs ?ho2 ?ho1 ?hb ?hks ?hi0 ?hi1 ?hne ?hk ?hd (fun b' t' tp' h' tk' hlt hle hlo hhi hb' F' N' => ?_) (fun G' e' t' tk' tp' h' tk2' hle FG' S' U' => ?_) (fun G' e' t' tk' tp' h' tk2' hlt hle FG' S' U' => ?_); (case B => k_asm); (case F => k_asm); (case X => k_asm); (case T => k_asm); (case C => assumption); (case N => k_asm); (case hR => first | assumption | rfl); (case hoc => assumption); (case hvs => assumption); (case ho2 => assumption); (case ho1 => first | assumption | (simp only [*]; rfl)); (case hb => assumption); (case hks => assumption); (case hi0 => omega); (case hi1 => omega); (case hne => (refine ⟨?_, ?_, ?_, ?_, ?_, ?_, ?_, ?_, ?_, ?_⟩ <;> assumption)); (case hk => first | rfl | assumption); (case hd => k_room)); (try dsimp only)))
local macro_rules | `(tactic| walk_at "call ref") => `(tactic| (k_here; (try dsimp only [List.nil_append, List.cons_append]); (with_reducible show wpAny _ _ (call (Value.ref 35) [Value.ref _]) _ _ _); k_dflt (refine' s1_c ?hR ?B ?F ?X ?T ?C ?N ?hoc ?hvs ?ho2 ?ho1 ?hb ?hks ?hi0 ?hi1 ?hne ?hk ?hd (fun t' tp' h' tk' hlt hle hlo hhi F' N' => ?_) (fun G' e' t' tk' tp' h' tk2' hle FG' S' U' => ?_) (fun G' e' t' tk' tp' h' tk2' hlt hle FG' S' U' => ?_); (case B => k_asm); (case F => k_asm); (case X => k_asm); (case T => k_asm); (case C => assumption); (case N => k_asm); (case hR => first | assumption | rfl); (case hoc => assumption); (case hvs => assumption); (case ho2 => assumption); (case ho1 => first | assumption | (simp only [*]; rfl)); (case hb => assumption); (case hks => assumption); (case hi0 => omega); (case hi1 => omega); (case hne => (refine ⟨?_, ?_, ?_, ?_, ?_, ?_, ?_, ?_, ?_, ?_⟩ <;> assumption)); (case hk => first | rfl | assumption); (case hd => k_room)); (try dsimp only)))
section
variable {us : List Value} {xs : List Item} {ks : List Int} {p : Int} {t1 t2 : Tok} {b' : Array UInt8}
theorem end_u (hxs : ItemsV us xs) (hxe : xs ++ toldM 0 (ks.drop p.toNat) = toldM 0 ks) (h : (ks.length : Int) ≤ p) :
    ∃ ys, ItemsV us ys ∧ ys ++ [.txt msg0] = toldM 0 ks := ⟨xs, hxs, by rw [← hxe, told_end 0 ks h]⟩
theorem end_b0 (hxs : ItemsV us xs) (hxe : xs ++ toldM 0 (ks.drop p.toNat) = toldM 0 ks) (h0 : 0 ≤ p) (h1 : p < ks.length) (h : (ks.length : Int) ≤ p + 1) :
    ∃ ys, ItemsV (us ++ [.int (ks.getD p.toNat 0) t1]) ys ∧ ys ++ [.txt msg0] = toldM 0 ks :=
  ⟨xs ++ [.num _], hxs.snoc .num, by rw [← hxe, told_0 ks h0 h1, told_end 1 ks h]; simp⟩
theorem end_b1 (hxs : ItemsV us xs) (hxe : xs ++ toldM 0 (ks.drop p.toNat) = toldM 0 ks) (h0 : 0 ≤ p) (h1 : p < ks.length) (h2 : p + 1 < ks.length) (h : (ks.length : Int) < p + 1 + 1 + ks.getD (p + 1).toNat 0) :
    ∃ ys, ItemsV (us ++ [.int (ks.getD p.toNat 0) t1]) ys ∧ ys ++ [.txt (msgN " bytes in a bytes1, but only " (ks.getD (p + 1).toNat 0) (ks.length - (p + 1 + 1)))] = toldM 0 ks :=
  ⟨xs ++ [.num _], hxs.snoc .num, by rw [← hxe, told_0 ks h0 h1, told_1e ks (by omega) h2 h]; simp⟩
theorem end_s0 (hxs : ItemsV us xs) (hxe : xs ++ toldM 0 (ks.drop p.toNat) = toldM 0 ks) (h0 : 0 ≤ p) (h1 : p < ks.length) (h2 : p + 1 < ks.length) (hlo : 0 ≤ ks.getD (p + 1).toNat 0) (h3 : p + 1 + 1 + ks.getD (p + 1).toNat 0 ≤ ks.length)
    (hb : KBw.bInts b' = List.take (ks.getD (p + 1).toNat 0).toNat (List.drop (p + 1 + 1).toNat ks)) (h : (ks.length : Int) ≤ p + 1 + 1 + ks.getD (p + 1).toNat 0) :
    ∃ ys, ItemsV (us ++ [.int (ks.getD p.toNat 0) t1] ++ [.bytes b' t2]) ys ∧ ys ++ [.txt msg0] = toldM 0 ks :=
  ⟨xs ++ [.num _] ++ [.oct _], (hxs.snoc .num).snoc (.oct hb), by rw [← hxe, told_0 ks h0 h1, told_1 ks (by omega) h2 hlo h3, told_end 2 ks h]; simp⟩
theorem end_s1 (hxs : ItemsV us xs) (hxe : xs ++ toldM 0 (ks.drop p.toNat) = toldM 0 ks) (h0 : 0 ≤ p) (h1 : p < ks.length) (h2 : p + 1 < ks.length) (hlo : 0 ≤ ks.getD (p + 1).toNat 0) (h3 : p + 1 + 1 + ks.getD (p + 1).toNat 0 ≤ ks.length)
    (hb : KBw.bInts b' = List.take (ks.getD (p + 1).toNat 0).toNat (List.drop (p + 1 + 1).toNat ks)) {q : Int} (hq : p + 1 + 1 + ks.getD (p + 1).toNat 0 = q) (h4 : q < ks.length) (h : (ks.length : Int) < q + 1 + ks.getD q.toNat 0) :
    ∃ ys, ItemsV (us ++ [.int (ks.getD p.toNat 0) t1] ++ [.bytes b' t2]) ys ∧ ys ++ [.txt (msgN " bytes in a string1, but only " (ks.getD q.toNat 0) (ks.length - (q + 1)))] = toldM 0 ks :=
  ⟨xs ++ [.num _] ++ [.oct _], (hxs.snoc .num).snoc (.oct hb), by rw [← hxe, told_0 ks h0 h1, told_1 ks (by omega) h2 hlo h3, hq, told_2e ks (by omega) h4 h]; simp⟩
theorem end_t {t3 : Tok} (hxs : ItemsV us xs) (hxe : xs ++ toldM 0 (ks.drop p.toNat) = toldM 0 ks) (h0 : 0 ≤ p) (h1 : p < ks.length) (h2 : p + 1 < ks.length) (hlo : 0 ≤ ks.getD (p + 1).toNat 0) (h3 : p + 1 + 1 + ks.getD (p + 1).toNat 0 ≤ ks.length)
    (hb : KBw.bInts b' = List.take (ks.getD (p + 1).toNat 0).toNat (List.drop (p + 1 + 1).toNat ks)) {q : Int} (hq : p + 1 + 1 + ks.getD (p + 1).toNat 0 = q) (h4 : q < ks.length) (hlo2 : 0 ≤ ks.getD q.toNat 0) (h : q + 1 + ks.getD q.toNat 0 ≤ (ks.length : Int)) :
    ∃ ys, ItemsV (us ++ [.int (ks.getD p.toNat 0) t1] ++ [.bytes b' t2] ++ [.str (latin (List.take (ks.getD q.toNat 0).toNat (List.drop (q + 1).toNat ks))) t3]) ys ∧ ys ++ toldM 0 (ks.drop (q + 1 + ks.getD q.toNat 0).toNat) = toldM 0 ks :=
  ⟨xs ++ [.num _] ++ [.oct _] ++ [.txt _], ((hxs.snoc .num).snoc (.oct hb)).snoc .txt, by rw [← hxe, told_0 ks h0 h1, told_1 ks (by omega) h2 hlo h3, hq, told_2 ks (by omega) h4 hlo2 h]; simp⟩
end
theorem told_loop {w : World} {p : Program} {loose : List Str} {mean : ExcName → Option Value} {mg mb : Str → Option Value} {dp un : Nat} {gd : Option (List Code)} {outer : List Env} {A₀ : Around} {base h₀ : Heap} {L : Addr} {m0 : Str → Option Value} {s : Shared} {Q : Flow → Shared → Prop} {E : Value → Shared → Prop}
  {ps : Arguments} {bd : List Stmt} {sc lsc : Scope} {lp : Stmt} {a1 l d f a5 a11 : Nat} {x1 x5 x11 : Obj} {r c' pl c2 c1 : Nat} {qual : Str} {doc pm ctv : Value} {oc o2 o1 : Obj} {vs : Array Value} {tq tp tr bt : Tok} {nn np : Nat} {b : Array UInt8} {ks : List Int} {fd : FuncData}
  (hR : readP = (ps, bd, sc)) (hL : loopP = (lp, lsc))
  (B : Below A₀ base outer h₀) (F : Fr h₀ L s.heap (fun y => if y = Str.ofString "file" then some (.ref f) else if y = Str.ofString "told" then some (.ref l) else m0 y)) (X : (Mine.hd.heap_39 w.params).In h₀) (T : Top p loose mean mg mb h₀) (C : CodeHd base 78 74)
  (N : News h₀ L s.heap (Led11 (a1, x1) (d, fd1 w.params tr (.ref r)) (f, (⟨.type "function", some d, .func fd, #[]⟩ : Obj)) (a5, x5) (r, fnMade (Str.ofString "read") qual ps bd sc [(Str.ofString "place", c2), (Str.ofString "octets", c1)] doc pm c' ctv) (c', oc) (c2, o2) (c1, o1) (a11, x11) l pl [] nn 0 tp np))
  (hoc : oc.data = .fields vs) (hvs : vs[1]? = some (.str qual tq)) (ho2 : o2.data = .cell (some (.ref pl))) (ho1 : o1.data = .cell (some (.bytes b bt)))
  (hb : KBw.bInts b = ks) (hks : ks.length ≤ 20)
  (hne : a1 ≠ pl ∧ l ≠ pl ∧ d ≠ pl ∧ f ≠ pl ∧ a5 ≠ pl ∧ r ≠ pl ∧ c' ≠ pl ∧ c2 ≠ pl ∧ c1 ≠ pl ∧ a11 ≠ pl)
  (hnl : a1 ≠ l ∧ d ≠ l ∧ f ≠ l ∧ a5 ≠ l ∧ r ≠ l ∧ c' ≠ l ∧ c2 ≠ l ∧ c1 ≠ l ∧ a11 ≠ l)
  (hd : dp + 4 < recursionLimit)
  (hE : ∀ G e t tk tp' i' us nn' np' msg h' tk', Fr h₀ L G (fun y => if y = Str.ofString "file" then some (.ref f) else if y = Str.ofString "told" then some (.ref l) else m0 y) →
    RaisedS base G (envX (Str.ofString "_law_told") lsc L 91 (.ref 90) [] :: outer) e (.type "ValueError") t [.str msg tk] (Led11 (a1, x1) (d, fd1 w.params tr (.ref r)) (f, (⟨.type "function", some d, .func fd, #[]⟩ : Obj)) (a5, x5) (r, fnMade (Str.ofString "read") qual ps bd sc [(Str.ofString "place", c2), (Str.ofString "octets", c1)] doc pm c' ctv) (c', oc) (c2, o2) (c1, o1) (a11, x11) l pl us nn' i' tp' np') h' → G.UpToSlots h' →
    us.length ≤ 70 → (∃ xs, ItemsV us xs ∧ xs ++ [.txt msg] = toldM 0 ks) → E (.ref e) { s with heap := h', toks := tk' })
  (hP : PassesOwn (model PySem.Challenge.rw_mr0066_01.row.prog w) (ktrTop dp un gd (Str.ofString "_law_told") lsc L 91 (.ref 90) [] outer) (envX (Str.ofString "_law_told") lsc L 91 (.ref 90) []) E) :
  wpAny (model PySem.Challenge.rw_mr0066_01.row.prog w) (ktrTop dp un gd (Str.ofString "_law_told") lsc L 91 (.ref 90) [] outer) (exec lp (envX (Str.ofString "_law_told") lsc L 91 (.ref 90) [])) Q E s := by
  revert X; k_fill; intro X
  obtain ⟨n1, n2, n3, n4, n5, n6, n7, n8, n9, n10⟩ := hne
  obtain ⟨q1, q2, q3, q4, q5, q6, q7, q8, q9⟩ := hnl
  injection hL with h1 h2
  subst h1 h2
  w_on
  refine while11 (fun us i => 0 ≤ i ∧ i ≤ ks.length ∧ us.length ≤ 3 * i.toNat ∧ ∃ xs, ItemsV us xs ∧ xs ++ toldM 0 (ks.drop i.toNat) = toldM 0 ks) (fun i => (ks.length - i).toNat) F N ⟨by decide, by omega, by simp, [], .nil, rfl⟩ ?_ hP
  intro us nn p tp np' h0 tk0 hI F' N'
  obtain ⟨hi0, hi1, hul, xs, hxs, hxe⟩ := hI
  dsimp only [Led11] at N'
  k_steps
  · rename News _ _ _ _ => N9
    rename Fr _ _ _ _ => F9
    simp only [List.push_toArray] at N9
    refine TPost.intro _ _ _ _ _ F9 N9 (fun _ x => x) ⟨by omega, by assumption, ?_, end_t hxs hxe hi0 (by assumption) (by assumption) (by assumption) (by assumption) (by assumption) rfl (by assumption) (by assumption) (by assumption)⟩ (by omega)
    simp only [List.length_append, List.length_cons, List.length_nil]
    omega
  · rename RaisedS _ _ _ _ _ _ _ _ _ => S9
    simp only [List.push_toArray] at S9
    exact hE _ _ _ _ _ _ _ _ _ _ _ _ (by assumption) S9 (by assumption) (by simp only [List.length_append, List.length_cons, List.length_nil]; omega) (end_s0 hxs hxe hi0 (by assumption) (by assumption) (by assumption) (by assumption) (by assumption) (by assumption))
  · rename RaisedS _ _ _ _ _ _ _ _ _ => S9
    simp only [List.push_toArray] at S9
    exact hE _ _ _ _ _ _ _ _ _ _ _ _ (by assumption) S9 (by assumption) (by simp only [List.length_append, List.length_cons, List.length_nil]; omega) (end_s1 hxs hxe hi0 (by assumption) (by assumption) (by assumption) (by assumption) (by assumption) rfl (by assumption) (by assumption))
  · rename RaisedS _ _ _ _ _ _ _ _ _ => S9
    simp only [List.push_toArray] at S9
    exact hE _ _ _ _ _ _ _ _ _ _ _ _ (by assumption) S9 (by assumption) (by simp only [List.length_append, List.length_cons, List.length_nil]; omega) (end_b0 hxs hxe hi0 (by assumption) (by assumption))
  · rename RaisedS _ _ _ _ _ _ _ _ _ => S9
    simp only [List.push_toArray] at S9
    exact hE _ _ _ _ _ _ _ _ _ _ _ _ (by assumption) S9 (by assumption) (by simp only [List.length_append, List.length_cons, List.length_nil]; omega) (end_b1 hxs hxe hi0 (by assumption) (by assumption) (by assumption))
  · rename RaisedS _ _ _ _ _ _ _ _ _ => S9
    exact hE _ _ _ _ _ _ _ _ _ _ _ _ (by assumption) S9 (by assumption) (by omega) (end_u hxs hxe (by assumption))
end Mine
/-! part T6 -/
namespace Mine
def Stop (P : Prop) : Prop := P
theorem Stop.out {P : Prop} (h : Stop P) : P := h
local macro_rules | `(tactic| k_room) => `(tactic| exact Nat.le_of_ble_eq_true rfl)
local macro_rules | `(tactic| walk_at "setAttr ref") => `(tactic| (k_here; k_dflt (refine' setAttr_fn ?F ?N ?U ?_; (case F => k_asm); (case N => k_asm); (case U => k_updF); k_whole); intro d' tk' h' tk' F' N' l1; (try dsimp only at N'); (try k_lt l1)))
local macro_rules | `(tactic| walk_at "exec While Constant cons nil") => `(tactic| (k_here; (with_reducible show wpAny _ _ (exec (Stmt.While _ _ _ _) _) _ _ _); refine Stop.out ?_))
local macro_rules | `(tactic| walk_at "call type:str") => `(tactic| (k_here; (with_reducible show wpAny _ _ (call (Value.type "str") [Value.ref _]) _ _ _); (rename Got _ _ _ _ _ => G9); refine str_got_one PySem.F.excStr_ValueError (by assumption) G9 (by k_units) ?_))
local macro_rules | `(tactic| walk_at "call builtin:list.append") => `(tactic| (k_here; (try dsimp only [List.nil_append, List.cons_append]); (with_reducible show wpAny _ _ (call (Value.builtin _) [Value.ref _, _]) _ _ _); k_dflt (refine' append_K ?k1 ?k2 ?k3 ?_ ?z; (case k1 => k_asm); (case k2 => k_asm); (case k3 => k_upd); (case z => (simp only [Array.size_push, List.size_toArray, sizeLine_eq]; omega)); k_whole); intro h' F' N'))
abbrev readQual : Str := (Str.ofString "_law_file" ++ ".<locals>.") ++ Str.ofString "read"
/-- the table of the file maker's code behind its first call -/
abbrev tabFull (c1 c2 : Addr) : Obj := tabObj (#[] ++ #[rawInt ((71 : Nat) : Int), rawInt ((4 : Nat) : Int), Value.ref c1] ++ #[rawInt ((75 : Nat) : Int), rawInt ((11 : Nat) : Int), Value.ref c2])
theorem news3 {h₀ h : Heap} {L : Addr} {news : List (Addr × Obj)} {p q r : Addr × Obj} (N : News h₀ L h news) (a : p ∈ news) (b : q ∈ news) (c : r ∈ news) : News h₀ L h [p, q, r] := fun x hx => by
  rcases List.mem_cons.mp hx with rfl | hx
  · exact N _ a
  · rcases List.mem_cons.mp hx with rfl | hx
    · exact N _ b
    · rw [List.mem_singleton.mp hx]; exact N _ c
/-- the record of read's code -/
def CodeOk (oc : Obj) : Prop := ∃ vs t, oc.data = .fields vs ∧ vs[1]? = some (.str readQual t)
theorem told_c1 {w : World} {p : Program} {loose : List Str} {mean : ExcName → Option Value} {mg mb : Str → Option Value} {cn : Str} {cs : Scope} {a : Addr} {ccd : Value} {cl : List (Str × Addr)} {h₀ : Heap} {L : Addr} {m : Str → Option Value} {s : Shared} {Q E : Value → Shared → Prop}
  {b : Array UInt8} {bt : Tok} {ks : List Int} 
  (B : Below callerA h₀ [] h₀) (F : Fr h₀ L s.heap m) (X : (Mine.hd.heap_39 w.params).In h₀) (N : News h₀ L s.heap [(74, tabObj #[])]) (T : Top p loose mean mg mb h₀) (C : CodeHd h₀ 78 74)
  (hk : cs.kind = .function) 
  (hb : KBw.bInts b = ks) (hks : ks.length ≤ 20)
  (h : ∀ l us nn c1 c2 oc h' tk', Fr h₀ L h' m → News h₀ L h' [(l, W.listOf us.toArray nn), (74, tabFull c1 c2), (c1, oc)] → CodeOk oc → KeptBut s.heap h' [74] L → s.heap.get? l = none → s.heap.get? c1 = none → @Ne Nat c1 l → ItemsV us (toldM 0 ks) → Q (.ref l) { s with heap := h', toks := tk' })
  : wpAny (model PySem.Challenge.rw_mr0066_01.row.prog w) (callerA.deeper (envX cn cs L a ccd cl)) (call (.ref 91) [.bytes b bt]) Q E s := by
  revert X; k_fill; intro X
  skip
  w_on
  refine wpAny_call ?_
  refine' code_defT ?k1 ?k2 ?k3 ?k4 ?k5 ?kA ?kF ?kK ?k6 ?k7 ?k8 ?k9 ?kB ?_ ?c2 ?c3 ?c4 ?c5; (case kA => exact rfl); (case kF => exact rfl); (case kK => assumption); (case k2 => k_asm); (case k1 => k_asm); (case k3 => k_asm); (case k4 => k_asm); (case k5 => k_asm); (case k6 => k_is); (case k7 => k_is); (case k8 => k_room); (case k9 => exact BindsTo.of_eq rfl); (case kB => exact locs rfl); (case c2 => exact rfl); (case c3 => exact rfl); (case c4 => exact rfl); (case c5 => decide); k_whole; intro g' L' h' FG' F' N' B' X' T' D'; (try dsimp only); (try k_lift B'); (try k_fold)
  k_steps
  all_goals unfold Stop
  refine' told_loop ?hR ?hL ?B ?F ?X ?T ?C ?N ?hoc ?hvs ?ho2 ?ho1 ?hb ?hks ?hne ?hnl ?hd (fun G' e' t' tk' tp' i' us' nn' np' msg' h' tk2' FG' S' U' hul' hx' => ?_) ?hP
  case hR => exact rfl
  case hL => exact rfl
  case B => k_asm
  case F => k_asm
  case X => k_asm
  case T => k_asm
  case C => assumption
  case N => k_asm
  case hoc => assumption
  case hvs => assumption
  case ho2 => assumption
  case ho1 => first | assumption | (simp only [*]; rfl)
  case hb => assumption
  case hks => assumption
  case hne => (refine ⟨?_, ?_, ?_, ?_, ?_, ?_, ?_, ?_, ?_, ?_⟩ <;> omega)
  case hnl => (refine ⟨?_, ?_, ?_, ?_, ?_, ?_, ?_, ?_, ?_⟩ <;> omega)
  case hd => k_room
  case hP => passes_own
  dsimp only [Led11] at S'
  k_steps
  obtain ⟨xs9, hx8, hx9⟩ := hx'
  rename News _ _ _ _ => N9
  rename Fr _ _ _ _ => F9
  rename KtsTurn _ _ _ => T9
  simp only [List.push_toArray] at N9
  refine leaveT_ F9 N9 T9 (fun F8 N8 K8 hn8 => ?_)
  show Q _ _
  refine h _ _ _ _ _ _ _ _ F8 (news3 N8 (.tail _ (.head _)) (.tail _ (.tail _ (.tail _ (.tail _ (.tail _ (.tail _ (.tail _ (.tail _ (.tail _ (.tail _ (.head _))))))))))) (.tail _ (.tail _ (.tail _ (.tail _ (.tail _ (.tail _ (.head _)))))))) ?_ K8 ?_ ?_ ?_ ?_
  · exact ⟨_, _, by assumption, by assumption⟩
  · exact (hn8 _ (.tail _ (.head _))).resolve_left (fun e9 => by have e8 : @Eq Nat _ 74 := List.mem_singleton.mp e9; dsimp only at e8; omega)
  · exact (hn8 _ (.tail _ (.tail _ (.tail _ (.tail _ (.tail _ (.tail _ (.head _)))))))).resolve_left (fun e9 => by have e8 : @Eq Nat _ 74 := List.mem_singleton.mp e9; dsimp only at e8; omega)
  · omega
  · rw [← hx9]; exact hx8.snoc .txt
/-! part T7 -/
theorem news11 {h₀ h : Heap} {L : Addr} {news : List (Addr × Obj)} {e1 e2 e3 e4 e5 e6 e7 e8 e9 e10 e11 : Addr × Obj} (N : News h₀ L h news) (h1 : e1 ∈ news) (h2 : e2 ∈ news) (h3 : e3 ∈ news) (h4 : e4 ∈ news) (h5 : e5 ∈ news) (h6 : e6 ∈ news) (h7 : e7 ∈ news) (h8 : e8 ∈ news) (h9 : e9 ∈ news) (h10 : e10 ∈ news) (h11 : e11 ∈ news) :
    News h₀ L h [e1, e2, e3, e4, e5, e6, e7, e8, e9, e10, e11] := fun x hx => by
  simp only [List.mem_cons, List.not_mem_nil, or_false] at hx
  rcases hx with rfl | rfl | rfl | rfl | rfl | rfl | rfl | rfl | rfl | rfl | rfl <;> exact N _ (by assumption)
theorem told_c2 {w : World} {p : Program} {loose : List Str} {mean : ExcName → Option Value} {mg mb : Str → Option Value} {cn : Str} {cs : Scope} {a : Addr} {ccd : Value} {cl : List (Str × Addr)} {h₀ : Heap} {L : Addr} {m : Str → Option Value} {s : Shared} {Q E : Value → Shared → Prop}
  {b : Array UInt8} {bt : Tok} {ks : List Int} {k1 k2 : Nat} {ok : Obj}
  (B : Below callerA h₀ [] h₀) (F : Fr h₀ L s.heap m) (X : (Mine.hd.heap_39 w.params).In h₀) (N : News h₀ L s.heap [(74, tabFull k1 k2), (k1, ok)]) (T : Top p loose mean mg mb h₀) (C : CodeHd h₀ 78 74)
  (hk : cs.kind = .function) (hok : CodeOk ok) (hk1 : k1 ≠ 74)
  (hb : KBw.bInts b = ks) (hks : ks.length ≤ 20)
  (h : ∀ l us nn h' tk', Fr h₀ L h' m → News h₀ L h' [(l, W.listOf us.toArray nn), (74, tabFull k1 k2), (k1, ok)] → KeptBut s.heap h' [74, k1] L → s.heap.get? l = none → ItemsV us (toldM 0 ks) → Q (.ref l) { s with heap := h', toks := tk' })
  : wpAny (model PySem.Challenge.rw_mr0066_01.row.prog w) (callerA.deeper (envX cn cs L a ccd cl)) (call (.ref 91) [.bytes b bt]) Q E s := by
  revert X; k_fill; intro X
  obtain ⟨kvs, kt, hok1, hok2⟩ := hok
  w_on
  refine wpAny_call ?_
  refine' code_defT ?k1 ?k2 ?k3 ?k4 ?k5 ?kA ?kF ?kK ?k6 ?k7 ?k8 ?k9 ?kB ?_ ?c2 ?c3 ?c4 ?c5; (case kA => exact rfl); (case kF => exact rfl); (case kK => assumption); (case k2 => k_asm); (case k1 => k_asm); (case k3 => k_asm); (case k4 => k_asm); (case k5 => k_asm); (case k6 => k_is); (case k7 => k_is); (case k8 => k_room); (case k9 => exact BindsTo.of_eq rfl); (case kB => exact locs rfl); (case c2 => exact rfl); (case c3 => exact rfl); (case c4 => exact rfl); (case c5 => decide); k_whole; intro g' L' h' FG' F' N' B' X' T' D'; (try dsimp only); (try k_lift B'); (try k_fold)
  k_steps
  all_goals unfold Stop
  rename News _ _ _ _ => N9
  refine' told_loop ?hR ?hL ?B ?F ?X ?T ?C ?N ?hoc ?hvs ?ho2 ?ho1 ?hb ?hks ?hne ?hnl ?hd (fun G' e' t' tk' tp' i' us' nn' np' msg' h' tk2' FG' S' U' hul' hx' => ?_) ?hP
  case hR => exact rfl
  case hL => exact rfl
  case B => k_asm
  case F => k_asm
  case X => k_asm
  case T => k_asm
  case C => assumption
  case N => exact news11 N9 (.head _) (.tail _ (.head _)) (.tail _ (.tail _ (.head _))) (.tail _ (.tail _ (.tail _ (.head _)))) (.tail _ (.tail _ (.tail _ (.tail _ (.tail _ (.tail _ (.tail _ (.tail _ (.head _))))))))) (.tail _ (.tail _ (.tail _ (.tail _ (.head _))))) (.tail _ (.tail _ (.tail _ (.tail _ (.tail _ (.tail _ (.tail _ (.tail _ (.tail _ (.head _)))))))))) (.tail _ (.tail _ (.tail _ (.tail _ (.tail _ (.head _)))))) (.tail _ (.tail _ (.tail _ (.tail _ (.tail _ (.tail _ (.head _))))))) (.tail _ (.tail _ (.tail _ (.tail _ (.tail _ (.tail _ (.tail _ (.head _)))))))) (.tail _ (.tail _ (.tail _ (.tail _ (.tail _ (.tail _ (.tail _ (.tail _ (.head _)))))))))
  case hoc => assumption
  case hvs => assumption
  case ho2 => assumption
  case ho1 => first | assumption | (simp only [*]; rfl)
  case hb => assumption
  case hks => assumption
  case hne => (refine ⟨?_, ?_, ?_, ?_, ?_, ?_, ?_, ?_, ?_, ?_⟩ <;> omega)
  case hnl => (refine ⟨?_, ?_, ?_, ?_, ?_, ?_, ?_, ?_, ?_⟩ <;> omega)
  case hd => k_room
  case hP => passes_own
  dsimp only [Led11] at S'
  k_steps
  obtain ⟨xs9, hx8, hx9⟩ := hx'
  rename News _ _ _ _ => N9
  rename Fr _ _ _ _ => F9
  rename KtsTurn _ _ _ => T9
  simp only [List.push_toArray] at N9
  refine leaveT_ F9 N9 T9 (fun F8 N8 K8 hn8 => ?_)
  show Q _ _
  refine h _ _ _ _ _ F8 (news3 N8 (.tail _ (.head _)) (.tail _ (.tail _ (.tail _ (.tail _ (.tail _ (.tail _ (.tail _ (.tail _ (.tail _ (.tail _ (.head _))))))))))) (.tail _ (.tail _ (.tail _ (.tail _ (.tail _ (.tail _ (.head _)))))))) K8 ?_ ?_
  · exact (hn8 _ (.tail _ (.head _))).resolve_left (fun e9 => by
      rcases List.mem_cons.mp e9 with e8 | e8
      · have e7 : @Eq Nat _ 74 := e8; dsimp only at e7; omega
      · have e7 : @Eq Nat _ k1 := List.mem_singleton.mp e8; dsimp only at e7; omega)
  · rw [← hx9]; exact hx8.snoc .txt
end Mine
/-! part E2 -/
namespace Mine
def KeptAll (h h' : Heap) (adr : List Addr) : Prop := ∀ b o, h.get? b = some o → b ∉ adr → h'.get? b = some o
def LeaveG (h : Heap) (adr : List Addr) (h₀ : Heap) (L : Addr) (m : Str → Option Value) (g : Heap) (R : Result → Shared → Prop) (v : Value) (s' : Shared) : Prop :=
  ∃ L' m' news', Fr g L' s'.heap m' ∧ News g L' s'.heap news' ∧ (Fr h₀ L s'.heap m → News h₀ L s'.heap news' → KeptAll h s'.heap adr → (∀ p ∈ news', p.1 ∈ adr ∨ h.get? p.1 = none) → R (.ok (.ret v)) s')
theorem leaveG_ {h : Heap} {adr : List Addr} {h₀ g : Heap} {L L' : Addr} {m m' : Str → Option Value} {news' : List (Addr × Obj)} {R : Result → Shared → Prop} {v : Value} {s' : Shared} (F' : Fr g L' s'.heap m') (N' : News g L' s'.heap news')
    (k : Fr h₀ L s'.heap m → News h₀ L s'.heap news' → KeptAll h s'.heap adr → (∀ p ∈ news', p.1 ∈ adr ∨ h.get? p.1 = none) → R (.ok (.ret v)) s') : LeaveG h adr h₀ L m g R v s' := ⟨L', m', news', F', N', k⟩
section
variable {prog : Program} {w : World} {A₀ A : Around} {s : Shared} {base h₀ : Heap} {L : Addr} {m : Str → Option Value} {env : Env} {outer : List Env} {news : List (Addr × Obj)} {K : Frag} {p : Program} {loose : List Str} {mean : ExcName → Option Value} {mg mb : Str → Option Value}
    {R : Result → Shared → Prop} {name qual : Str} {params : Arguments} {body : List Stmt} {scope : Scope} {dV kV doc pm cdv ct oc : Value} {an od : Option Addr} {osl : Array (Option Value)} {f : Addr} {args : Args} {binds : List (Str × Value)}
/-- back in the caller's frame, with what is kept -/
theorem leave_back (B : Below A₀ base outer h₀) (F : Fr h₀ L s.heap m) (N : News h₀ L s.heap news) (hA : A.frames = some (env :: outer)) (hf : env.frame = some L) (hke : env.scope.kind = .function) {v : Value} {s' : Shared}
    (hl : LeaveG s.heap (news.map (·.1)) h₀ L m (hideAll s.heap (news.map (·.1))) R v s') : R (.ok (.ret v)) s' := by
  obtain ⟨FG, BG, st, lv⟩ := groundX (R := R) B F N hA hf hke
  obtain ⟨L', m', news', F', N', k⟩ := hl
  refine lv v s' ⟨L', m', news', F', N', fun F8 N8 => k F8 N8 (fun b o e hb => F'.keep b o (hideAll_get _ e hb)) fun p hp => ?_⟩
  cases q : s.heap.get? p.1 with
  | none => exact .inr rfl
  | some o =>
    by_cases hb : p.1 ∈ news.map (·.1)
    · exact .inl hb
    · have := (N' p hp).2.2
      rw [hideAll_get _ q hb] at this
      cases this
/-- a def without cells, entered: all that the ledger does not name is kept -/
theorem code_defG (B : Below A₀ base outer h₀) (F : Fr h₀ L s.heap m) (X₀ : K.In h₀) (N : News h₀ L s.heap news) (T : Top p loose mean mg mb h₀) (hA : A.frames = some (env :: outer)) (hf : env.frame = some L) (hke : env.scope.kind = .function)
    (ho : K.lookup f = some ⟨oc, od, .func (fnOf name qual params body scope dV kV doc pm an cdv ct), osl⟩) (hcd : codeIn K cdv qual = true) (hroom : A.depth < recursionLimit)
    (hbind : BindsTo s (fnOf name qual params body scope dV kV doc pm an cdv ct) args binds) (hloc : ∀ y ∈ binds, scope.names.lookup y.1 = some .local)
    (h : ∀ g L' h₁, Fr h₀ L g m → Fr g L' h₁ (fun y => binds.reverse.lookup y) → News g L' h₁ news → Below A base (env :: outer) g → K.In g → Top p loose mean mg mb g → (∀ p ∈ news, p.1 < L') →
      wpAny (model prog w) (A.deeper (envOf qual scope L' f cdv)) (execs body (envOf qual scope L' f cdv))
        (fun fl s' => LeaveG s.heap (news.map (·.1)) h₀ L m g R (match fl with | .ret v => v | _ => .none) s')
        (fun e s' => wpAny (model prog w) (A.deeper (envOf qual scope L' f cdv)) (leaving (envOf qual scope L' f cdv) e) (fun _ s'' => R (.error e) s'') (fun e' s'' => R (.error e') s'') s')
        { s with heap := h₁, toks := s.toks + binds.length })
    (hco : scope.isCoroutine = false) (hgen : scope.isGenerator = false) (hk : scope.kind = .function)
    (hcell : ∀ x ∈ scope.names, x.2 ≠ .cell) : codeAny (model prog w) A (.call (.ref f) args) R s := by
  have X := X₀.keeps F.keep
  obtain ⟨FG, BG, st, _⟩ := groundX (R := R) B F N hA hf hke
  refine codeAny_call_def (fd := fnOf name qual params body scope dV kV doc pm an cdv ct) (body := body) (binds := binds) hroom (X _ _ ho) rfl (T.nolimit.keeps F.keep) (codeRec_of X hcd) rfl hbind hcell hloc (fun h₁ hns hk₁ => ?_) hco hgen hk
  exact wpAny_mono (h _ s.heap.objs.size h₁ FG ⟨hns, fun b o e => hk₁ b o (of_hideAll _ e), Nat.le_of_eq (hideAll_size _ _)⟩
    (fun p hp => ⟨hk₁ _ _ (N p hp).1, Nat.ne_of_lt (Heap.lt_size (N p hp).1), hideAll_none _ (List.mem_map_of_mem hp)⟩) BG (X₀.keeps st) (T.keeps st) (fun p hp => Heap.lt_size (N p hp).1)) (fun fl s' hl => leave_back B F N hA hf hke hl) fun _ _ y => y
/-- a def with cells, entered likewise -/
theorem code_cellG (B : Below A₀ base outer h₀) (F : Fr h₀ L s.heap m) (X₀ : K.In h₀) (N : News h₀ L s.heap news) (T : Top p loose mean mg mb h₀) (hA : A.frames = some (env :: outer)) (hf : env.frame = some L) (hke : env.scope.kind = .function)
    (ho : K.lookup f = some ⟨oc, od, .func (fnOf name qual params body scope dV kV doc pm an cdv ct), osl⟩) (hcd : codeIn K cdv qual = true) (hroom : A.depth < recursionLimit)
    (hbind : BindsTo s (fnOf name qual params body scope dV kV doc pm an cdv ct) args binds) (hkind : (binds.all fun y => scope.names.lookup y.1 == some .local || scope.names.lookup y.1 == some .cell) = true)
    (hnd : ((cellsFrom 0 scope.names []).map (·.1)).Nodup)
    (h : ∀ g L' h₁ tk cells, Fr h₀ L g m → Fr g L' h₁ (bindL (envOfC qual scope L' f cdv).kindOf binds fun _ => none) → News g L' h₁ (cells ++ news) →
      CellsAre (bindC (envOfC qual scope L' f cdv).kindOf binds fun _ => none) (cellsFrom (L' + 1) scope.names []) cells → Below A base (env :: outer) g → K.In g → Top p loose mean mg mb g → (∀ p ∈ news, p.1 < L') →
      wpAny (model prog w) (A.deeper (envOfC qual scope L' f cdv)) (execs body (envOfC qual scope L' f cdv))
        (fun fl s' => LeaveG s.heap (news.map (·.1)) h₀ L m g R (match fl with | .ret v => v | _ => .none) s')
        (fun e s' => wpAny (model prog w) (A.deeper (envOfC qual scope L' f cdv)) (leaving (envOfC qual scope L' f cdv) e) (fun _ s'' => R (.error e) s'') (fun e' s'' => R (.error e') s'') s')
        { s with heap := h₁, toks := tk })
    (hco : scope.isCoroutine = false) (hgen : scope.isGenerator = false) (hk : scope.kind = .function) : codeAny (model prog w) A (.call (.ref f) args) R s := by
  have X := X₀.keeps F.keep
  obtain ⟨FG, BG, st, _⟩ := groundX (R := R) B F N hA hf hke
  refine codeAny_call_function hroom (X _ _ ho) rfl hco hgen rfl (codeRec_of X hcd) (hbind _ _ _ _ ?_)
  refine wpAny_newFunctionEnv_cells hk (kindsX hkind _) fun env' he s' x => ?_
  subst he
  refine ⟨(T.nolimit.keeps F.keep).keeps x.toInCall.keep, codeAny_func ?_⟩
  obtain ⟨h₁, tk, rfl, _⟩ := x.done
  have hk₁ := x.toInCall.keep
  obtain ⟨cells, NC, Y⟩ := Cl.news (h₀ := s.heap) (Nat.le_refl _) fun n c hm => ⟨x.cell n c (lookup_of_mem_nodup (cellsFrom_names scope.names 0 (s.heap.objs.size + 1) [] [] rfl ▸ hnd) hm), x.above n c hm⟩
  refine wpAny_mono (h _ s.heap.objs.size h₁ tk cells FG ⟨x.toInCall.ns, fun b o e => hk₁ b o (of_hideAll _ e), Nat.le_of_eq (hideAll_size _ _)⟩ (fun p hp => ?_) Y BG (X₀.keeps st) (T.keeps st) (fun p hp => Heap.lt_size (N p hp).1)) (fun fl s' hl => leave_back B F N hA hf hke hl) fun _ _ y => y
  rcases List.mem_append.mp hp with hp | hp
  · refine ⟨(NC p hp).1, (NC p hp).2.1, ?_⟩
    cases q : (hideAll s.heap (news.map (·.1))).get? p.1 with
    | none => rfl
    | some o => have := of_hideAll _ q; rw [(NC p hp).2.2] at this; cases this
  · exact ⟨hk₁ _ _ (N p hp).1, Nat.ne_of_lt (Heap.lt_size (N p hp).1), hideAll_none _ (List.mem_map_of_mem hp)⟩
end
end Mine
/-! part F1 -/
namespace Mine
local macro_rules | `(tactic| k_room) => `(tactic| first | exact Nat.le_of_ble_eq_true rfl | (dsimp only [Around.deeper]; omega))
def numL (pre : List Int) : Int := pre.foldl (fun a x => a * 64 + x) 0
theorem numL_snoc (pre : List Int) (x : Int) : numL (pre ++ [x]) = numL pre * 64 + x := by unfold numL; rw [List.foldl_append]; rfl
theorem numL_lo (pre : List Int) (h : ∀ x ∈ pre, 0 ≤ x ∧ x < 64) : 0 ≤ numL pre ∧ numL pre < 64 ^ pre.length := by
  have key : ∀ (l : List Int) (k : Nat) (a : Int), (∀ x ∈ l, 0 ≤ x ∧ x < 64) → 0 ≤ a → a < 64 ^ k → 0 ≤ l.foldl (fun a x => a * 64 + x) a ∧ l.foldl (fun a x => a * 64 + x) a < 64 ^ (k + l.length) := by
    intro l
    induction l with
    | nil => intro k a _ h0 h1; exact ⟨h0, h1⟩
    | cons x l ih =>
      intro k a hl h0 h1
      have hx := hl x (.head _)
      have := ih (k + 1) (a * 64 + x) (fun y hy => hl y (.tail _ hy)) (by omega) (by rw [Int.pow_succ]; omega)
      rw [List.foldl_cons, List.length_cons, show k + (l.length + 1) = k + 1 + l.length by omega]
      exact this
  have := key pre 0 0 h (Int.le_refl _) (by decide)
  rw [Nat.zero_add] at this
  exact this
theorem pow64_le {n : Nat} (h : n ≤ 18) : (64 : Int) ^ n ≤ 324518553658426726783156020576256 := by
  have e : (64 : Nat) ^ n ≤ 64 ^ 18 := Nat.pow_le_pow_right (by decide) h
  have e2 : ((64 ^ n : Nat) : Int) ≤ ((64 ^ 18 : Nat) : Int) := Int.ofNat_le.mpr e
  rw [Int.natCast_pow] at e2
  exact e2
theorem p256_ne (e : Nat) : (256 : Int) ^ e ≠ 0 := Int.ne_of_gt (Int.pow_pos (by decide))
theorem p256_log {e : Nat} (he : e ≤ 1000) : ((256 : Int) ^ e).natAbs.log2 < 9000 := by
  have e1 : ((256 : Int) ^ e).natAbs = 2 ^ (8 * e) := by
    rw [Int.natAbs_pow, Nat.pow_mul]; rfl
  rw [e1, Nat.log2_two_pow]
  omega
local macro_rules | `(tactic| walk_at "binaryOp FloorDiv int int") => `(tactic| (k_here; (with_reducible show wpAny _ _ (binaryOp Operator.FloorDiv (Value.int _ _) (Value.int (256 ^ _) _)) _ _ _); refine floordiv_int (p256_ne _) ?_ (Or.inl (PyProof.noPylong_of_log2 (p256_log (by (try simp only [Int.fdiv_eq_ediv_of_nonneg _ (show (0 : Int) ≤ 8 by decide)] at *); omega))))))
section
variable {prog : Program} {w : World} {A : Around} {E : Value → Shared → Prop} {s : Shared} {env : Env} {h₀ : Heap} {x : Str} {body : List Stmt} {Q : Flow → Shared → Prop}
theorem fill_iter {l cM cN : Addr} {e1 : Addr × Obj} {oM oN : Obj} {vs : List Value} {ns : List Int} {nn : Nat} {t0 : Tok} {m₀ : Str → Option Value}
    (hh : A.handled = none) (hi : IntsAre vs ns) (F : Fr h₀ env.locals s.heap m₀) (N : News h₀ env.locals s.heap [e1, (cM, oM), (cN, oN), (l, W.listOf vs.toArray nn)]) (hN : oN.data = .cell (some (.int 0 t0)))
    (turn : ∀ a ta o pre n t h tk own, n ∈ ns → (∀ y ∈ pre, y ∈ ns) → pre.length < ns.length → OwnOff own [cM, cN, l] → o.data = .cell (some (.int a ta)) → a = numL pre →
      Fr h₀ env.locals h (fun y => if y = x then some (.int n t) else m₀ y) → News h₀ env.locals h ([(cM, oM), (cN, o), (l, W.listOf vs.toArray nn)] ++ own) →
      wpAny (model prog w) A (execs body env) (InvPostN h₀ env.locals (KstS (fun c : Int × Tok × Obj => [(cM, oM), (cN, c.2.2), (l, W.listOf vs.toArray nn)]) (fun _ => []) (fun c => c.2.2.data = .cell (some (.int c.1 c.2.1))) x [] m₀ (fun pre c => c.1 = numL pre) (pre ++ [n])) own [cM, cN, l] { s with heap := h, toks := tk } Q) E { s with heap := h, toks := tk })
    (done : ∀ ta o (u : Str → Option Value) h tk, o.data = .cell (some (.int (numL ns) ta)) → Fr h₀ env.locals h (fun y => if y = x then u y else m₀ y) → News h₀ env.locals h [(cM, oM), (cN, o), (l, W.listOf vs.toArray nn)] → Q .next { s with heap := h, toks := tk }) :
    wpAny (model prog w) A (pyIter (.ref l)) (fun it s₂ => LoopAtV prog w A h₀ env x body Q E it s₂) E s := by
  refine kst_listL (σ := Int × Tok × Obj) (fun c => [(cM, oM), (cN, c.2.2), (l, W.listOf vs.toArray nn)]) (fun _ => []) (fun c => c.2.2.data = .cell (some (.int c.1 c.2.1))) [] (fun pre c => c.1 = numL pre) (0, t0, oN) hh (fun c => .tail _ (.tail _ (.head _))) hi F (fun q hq => N q (.tail _ hq)) hN (fun _ h => nomatch h) rfl ?_ ?_
  · rintro ⟨a, ta, o⟩ pre post n t u h tk own hns hn hoff hf hp F' N'
    refine turn a ta o pre n t h tk own hn (fun y hy => by rw [hns]; exact List.mem_append_left _ hy) (by rw [hns]; simp) hoff hf hp F' N'
  · rintro ⟨a, ta, o⟩ u h tk hf hp F' N'
    dsimp only at hp hf
    rw [hp] at hf
    exact done ta o u h tk hf F' N'
end
theorem fill_end {h₀ h' : Heap} {L cM cN l : Addr} {oM lo o : Obj} {own : List (Addr × Obj)} {x : Str} {v : Value} {m₀ : Str → Option Value} {a n : Int} {t : Tok} {pre : List Int} {s₁ : Shared} {tk : Nat}
    (F : Fr h₀ L h' (fun y => if y = x then some v else m₀ y)) (N : News h₀ L h' ((cM, oM) :: (cN, o) :: ([(l, lo)].append own))) (hd : o.data = .cell (some (.int (a * 64 + n) t))) (ha : a = numL pre) :
    InvEndN h₀ L (KstS (fun c : Int × Tok × Obj => [(cM, oM), (cN, c.2.2), (l, lo)]) (fun _ => []) (fun c => c.2.2.data = .cell (some (.int c.1 c.2.1))) x [] m₀ (fun pre c => c.1 = numL pre) (pre ++ [n])) own [cM, cN, l] s₁ { s₁ with heap := h', toks := tk } :=
  ⟨h', tk, _, _, [(cM, oM), (cN, o), (l, lo)], rfl, F, N, fun q hq => by
      rcases List.mem_cons.mp hq with rfl | hq
      · exact .head _
      · rcases List.mem_cons.mp hq with rfl | hq
        · exact .tail _ (.head _)
        · rw [List.mem_singleton.mp hq]; exact .tail _ (.tail _ (.head _)),
    fun q hq => .tail _ (.tail _ (.tail _ hq)), rfl, ⟨(a * 64 + n, t, o), rfl, hd, (fun p (hp : p ∈ ([] : List (Str × Value))) => nomatch hp), (fun z hz _ _ => if_neg hz), (by show a * 64 + n = numL (pre ++ [n]); rw [numL_snoc, ha])⟩⟩
def filledL (ns : List Int) : List Int := List.map (fun k' => (((numL ns).fdiv (2 ^ (((ns.length : Int) * 6).fmod 8).toNat)).fdiv (256 ^ (((ns.length : Int) * 6).fdiv 8 - 1 - k').toNat)).fmod 256) (rangeKs 0 (((ns.length : Int) * 6).fdiv 8 - 0).toNat)
theorem filled_c {w : World} {p : Program} {loose : List Str} {mean : ExcName → Option Value} {mg mb : Str → Option Value} {dp un : Nat} {gd : Option (List Code)} {cn : Str} {cs : Scope} {a : Addr} {ccd : Value} {cl : List (Str × Addr)} {outer : List Env} {A₀ : Around} {base h₀ : Heap} {L : Addr} {m : Str → Option Value} {s : Shared} {Q E : Value → Shared → Prop}
  {l : Nat} {vs : List Value} {ns : List Int} {nn : Nat}
  (B : Below A₀ base outer h₀) (F : Fr h₀ L s.heap m) (X : (Mine.hd.heap_39 w.params).In h₀) (T : Top p loose mean mg mb h₀)
  (N : News h₀ L s.heap [(l, W.listOf vs.toArray nn)])
  (hi : IntsAre vs ns) (hlen : ns.length ≤ 19) (hlo : ∀ x ∈ ns, 0 ≤ x ∧ x < 64)
  (hk : cs.kind = .function) (hd : dp + 1 < recursionLimit)
  (h : ∀ t h' tk', Fr h₀ L h' m → News h₀ L h' [(l, W.listOf vs.toArray nn)] → KeptAll s.heap h' [l] → Q (.bytes (byteArr (filledL ns)) t) { s with heap := h', toks := tk' }) :
  wpAny (model PySem.Challenge.rw_mr0066_01.row.prog w) (ktrTop dp un gd cn cs L a ccd cl outer) (call (.ref 84) [.ref l]) Q E s := by
  revert X; k_fill; intro X
  w_on
  refine wpAny_call ?_
  refine' code_cellG ?k1 ?k2 ?k3 ?k4 ?k5 ?kA ?kF ?kK ?k6 ?k7 ?k8 ?k9 ?kB ?kD ?_ ?c2 ?c3 ?c4; (case kA => exact rfl); (case kF => exact rfl); (case kK => assumption); (case k1 => k_asm); (case k2 => k_asm); (case k3 => k_asm); (case k4 => k_asm); (case k5 => k_asm); (case k6 => k_is); (case k7 => k_is); (case k8 => k_room); (case k9 => exact BindsTo.of_eq rfl); (case kB => exact rfl); (case kD => decide +kernel); (case c2 => exact rfl); (case c3 => exact rfl); (case c4 => exact rfl); k_whole; intro g' L' h' tk' cells' FG' F' N' Y' B' X' T' l1; (try k_lt l1); k_cells Y'; (try simp only [List.cons_append, List.nil_append] at N'); (try dsimp only); (try k_lift B'); (try k_fold)
  k_steps
  refine' fill_iter ?hh ?hi ?F ?N ?hN ?turn ?done
  case hh => exact rfl
  case hi => assumption
  case F => k_asm
  case N => k_asm
  case hN => assumption
  case turn =>
    intro a ta o pre n t h tk own hn hpre hlt hoff ho ha F' N'
    obtain ⟨hn0, hn1⟩ := hlo n hn
    obtain ⟨ha0, ha1⟩ := numL_lo pre (fun y hy => hlo y (hpre y hy))
    have ha2 := pow64_le (n := pre.length) (by omega)
    rw [← ha] at ha0 ha1
    have ha3 : a < 324518553658426726783156020576256 := Int.lt_of_lt_of_le ha1 ha2
    clear ha1 ha2
    k_steps
    rename Fr _ _ _ _ => F9
    rename News _ _ _ _ => N9
    exact fill_end F9 N9 (by assumption) ha
  case done =>
    intro ta o u h1 tk ho F' N'
    k_steps
    rename Fr _ _ _ _ => F9
    rename News _ _ _ _ => N9
    refine leaveG_ F9 N9 (fun F8 N8 K8 hn8 => ?_)
    show Q _ _
    exact h _ _ _ F8 (fun q hq => N8 q (.tail _ (.tail _ (.tail _ hq)))) K8
end Mine
/-! part B1 -/
namespace Mine
section
variable {prog : Program} {w : World} {A : Around} {E : Value → Shared → Prop} {s : Shared} {h₀ : Heap} {L : Addr} {m : Str → Option Value} {env : Env}
/-- a comprehension's source that is bytes -/
def SrcB (prog : Program) (w : World) (A : Around) (h₀ : Heap) (L : Addr) (m : Str → Option Value) (env : Env) (elt : Expr) (x : Str) (scope : Scope) (cl : List (Str × Addr)) (Fin : Shared → List Value → List (Addr × Obj) → Prop) (xv : Value) (s₁ : Shared) : Prop :=
  ∃ b t news, xv = .bytes b t ∧ A.handled = none ∧ Fr h₀ L s₁.heap m ∧ News h₀ L s₁.heap news ∧ b.size ≤ sizeLine ∧
    ∀ s₂ : Shared, (∃ h, s₂ = { s₁ with heap := h }) → LCg.CompRest prog w A h₀ L m env elt x scope cl s₂ (fun _ => True) (fun i v => ∃ c u, b[i]? = some c ∧ v = .int (c.toNat : Int) u) (Fin s₂) b.size 0 [] news
theorem bytes_st {I : Addr} {b : Array UInt8} {t : Tok} : ∀ i (h h' : Heap) (o : Obj) (nw : List (Addr × Obj)), KBw.IsBytesIter h I b t i → h.get? I = some o → h'.get? I = some o → (∀ b o, h₀.get? b = some o → h'.get? b = some o) → News h₀ L h' nw → True → KBw.IsBytesIter h' I b t i :=
  fun i h h' o nw st e e' _ _ _ => by obtain ⟨o', q, r⟩ := st; rw [e] at q; cases q; exact ⟨o, e', r⟩
theorem ListComp_B {elt iter : Expr} {x : Str} {px : Pos} {scope : Scope} {cl : List (Str × Addr)} {pos : Pos} {Q : Value → Shared → Prop} (_F₀ : Fr h₀ L s.heap m)
    (hclos : closureFor scope env = pure cl) (hcell : ∀ y ∈ scope.names, y.2 ≠ .cell) (hkind : scope.kind = .function)
    (hnames : ∀ y ∈ scope.names, y.2 = .local → scope.names.lookup y.1 = some .local) (hx : scope.names.lookup x = some .local)
    (h : wpAny (model prog w) A (eval iter env) (SrcB prog w A h₀ L m env elt x scope cl (fun s₂ => LCg.FinE h₀ L m s₂ Q)) E s)
    (hs : ∀ x, foldedSetIterable iter env x = pure x := by intro _; rfl) :
    wpAny (model prog w) A (eval (.ListComp elt [⟨.Name x px, iter, [], 0⟩] scope pos) env) Q E s := by
  rw [eval_ListComp]
  refine wpAny_comprehension_free (use := none) rfl hs hclos hkind hnames (wpAny_mono h (fun xv s₁ h₁ => ?_) fun _ _ e => e)
  obtain ⟨b, t, news, rfl, hh, F, N, hsz, R⟩ := h₁
  refine KBw.pyIter_bytes ?_
  refine LCg.block_U (KBw.walks hh s₁.heap.objs.size b t) hsz (fun i h st => by obtain ⟨o, e, _⟩ := st; exact ⟨o, e⟩) bytes_st hcell hkind hx ⟨_, Heap.get?_push_size _ rfl, rfl, rfl⟩ (fun b hb => ?_)
    (F.keeps fun _ _ e => Heap.get?_push_of_some _ e) (N.grown fun _ _ e => Heap.get?_push_of_some _ e) (Nat.ne_of_lt F.ns.lt) (next_is_new F) (fun p hp => Nat.ne_of_lt (Heap.lt_size (N p hp).1)) trivial (R _ ⟨_, rfl⟩) ?_
  · rw [List.mem_singleton.mp hb]
    show s₁.heap.objs.size < (s₁.heap.push _).objs.size
    rw [Heap.size_push]; exact Nat.lt_succ_self _
  · intro D C h tk m' ys news' F' N' o1 hn hC₀ hD₀ hCL hDL hCD offC fin
    refine ⟨m', hn, fun h'' hs'' => fin D h'' tk (F'.change hs'' hCL hC₀) (fun p hp => ?_) o1⟩
    refine ⟨hs''.extBut _ _ ?_ (N' p hp).1, (N' p hp).2⟩
    rcases List.mem_cons.mp hp with rfl | hp
    · exact Ne.symm hCD
    · exact offC p hp
theorem SrcB.text {elt : Expr} {x : Str} {scope : Scope} {cl : List (Str × Addr)} {Fin : Shared → List Value → List (Addr × Obj) → Prop} {b : Array UInt8} {t : Tok} {ks : List Int} {news : List (Addr × Obj)} {s₁ : Shared} (g : Int → Str)
    (hh : A.handled = none) (F : Fr h₀ L s₁.heap m) (N : News h₀ L s₁.heap news) (hb : KBw.bInts b = ks) (hsz : ks.length ≤ 1000)
    (turn : ∀ k t I oI C oC D m₂ ys h tk (E' : Value → Shared → Prop), k ∈ ks → 0 ≤ k → k < 256 → LCg.NsObj oC m₂ → m₂ x = some (.int k t) → Fr h₀ L h m → News h₀ L h ((I, oI) :: (C, oC) :: (D, LCg.lst ys) :: news) → LCg.Off3 I C D news → ((@Ne Nat I C) ∧ (@Ne Nat I D) ∧ (@Ne Nat C D)) → KPfMark →
      wpAny (model prog w) A (eval elt (compEnvC scope cl C env)) (LCg.CompEnd h₀ L m { s₁ with heap := h, toks := tk } I oI C oC D (LCg.lst ys) (fun _ => True) (fun y news' => KCtEl news (g k) y news')) E' { s₁ with heap := h, toks := tk })
    (fin : ∀ g' ys, CarriedAll ys (ks.map fun k => PyData.str (g k)) → Fin { s₁ with heap := g' } ys news) :
    SrcB prog w A h₀ L m env elt x scope cl Fin (.bytes b t) s₁ := by
  refine ⟨b, t, news, rfl, hh, F, N, by rw [← KBw.ints_length, hb, sizeLine_eq]; omega, ?_⟩
  rintro _ ⟨g9, rfl⟩
  refine kct_rest (ks := ks) g (by rw [← hb, KBw.ints_length]) ?_ (fun k t I oI C oC D m₂ ys h tk E' hk hC hx F N off ne mk => turn k t I oI C oC D m₂ ys h tk E' hk (KBw.ints_in (hb ▸ hk)).1 (KBw.ints_in (hb ▸ hk)).2 hC hx F N off ne mk) (fun ys hc _ => fin g9 ys hc)
  rintro i v _ ⟨c, u, hc, rfl⟩
  exact ⟨_, u, hb ▸ KBw.ints_get hc, rfl⟩
theorem SrcB.ints {elt : Expr} {x : Str} {scope : Scope} {cl : List (Str × Addr)} {Fin : Shared → List Value → List (Addr × Obj) → Prop} {b : Array UInt8} {t : Tok} {ks : List Int} {news : List (Addr × Obj)} {s₁ : Shared} (g : Int → Int)
    (hh : A.handled = none) (F : Fr h₀ L s₁.heap m) (N : News h₀ L s₁.heap news) (hb : KBw.bInts b = ks) (hsz : ks.length ≤ 1000)
    (turn : ∀ k t I oI C oC D m₂ ys h tk (E' : Value → Shared → Prop), k ∈ ks → 0 ≤ k → k < 256 → LCg.NsObj oC m₂ → m₂ x = some (.int k t) → Fr h₀ L h m → News h₀ L h ((I, oI) :: (C, oC) :: (D, LCg.lst ys) :: news) → LCg.Off3 I C D news → ((@Ne Nat I C) ∧ (@Ne Nat I D) ∧ (@Ne Nat C D)) → KPfMark →
      wpAny (model prog w) A (eval elt (compEnvC scope cl C env)) (LCg.CompEnd h₀ L m { s₁ with heap := h, toks := tk } I oI C oC D (LCg.lst ys) (fun _ => True) (fun y news' => KCfEl news (g k) y news')) E' { s₁ with heap := h, toks := tk })
    (fin : ∀ g' ys, IntsAre ys (ks.map g) → Fin { s₁ with heap := g' } ys news) :
    SrcB prog w A h₀ L m env elt x scope cl Fin (.bytes b t) s₁ := by
  refine ⟨b, t, news, rfl, hh, F, N, by rw [← KBw.ints_length, hb, sizeLine_eq]; omega, ?_⟩
  rintro _ ⟨g9, rfl⟩
  refine kcf_rest (ks := ks) g (by rw [← hb, KBw.ints_length]) ?_ (fun k t I oI C oC D m₂ ys h tk E' hk hC hx F N off ne mk => turn k t I oI C oC D m₂ ys h tk E' hk (KBw.ints_in (hb ▸ hk)).1 (KBw.ints_in (hb ▸ hk)).2 hC hx F N off ne mk) (fun ys hc => fin g9 ys hc)
  rintro i v _ ⟨c, u, hc, rfl⟩
  exact ⟨_, u, hb ▸ KBw.ints_get hc, rfl⟩
end
end Mine
/-! part U1 -/
namespace Mine
local macro_rules | `(tactic| k_room) => `(tactic| first | exact Nat.le_of_ble_eq_true rfl | (dsimp only [Around.deeper]; omega))
local macro_rules | `(tactic| walk_at "exec While Compare cons nil") => `(tactic| (k_here; (with_reducible show wpAny _ _ (exec (Stmt.While _ _ _ _) _) _ _ _); refine Stop.out ?_))
section
variable {prog : Program} {w : World} {A : Around} {E : Value → Shared → Prop} {Q : Flow → Shared → Prop} {s : Shared} {env : Env} {h₀ : Heap} {L : Addr}
abbrev dueStored : List Str := [Str.ofString "kind", Str.ofString "many", Str.ofString "left", Str.ofString "words", Str.ofString "item"]
abbrev DuePost (h₀ : Heap) (L : Addr) (s : Shared) (l : Addr) (m₀ : Str → Option Value) (P : List Value → Int → Prop) (μ : Int → Nat) (Q : Flow → Shared → Prop) (us : List Value) (nn : Nat) (i : Int) (t : Tok) : Flow → Shared → Prop :=
  KswPost h₀ L s (fun c : List Value × Nat × Int × Tok => [(l, W.listOf c.1.toArray c.2.1)]) (fun c => [(Str.ofString "first", .int c.2.2.1 c.2.2.2)]) (fun _ => True) dueStored m₀ (fun c => P c.1 c.2.2.1) (fun c => μ c.2.2.1) Q (us, nn, i, t)
theorem due_while {test : Expr} {body : List Stmt} {pos : Pos} {e1 : Addr × Obj} {l : Addr} {nn : Nat} {t0 : Tok} {m₀ : Str → Option Value} (P : List Value → Int → Prop) (μ : Int → Nat)
    (F : Fr h₀ L s.heap m₀) (N : News h₀ L s.heap [e1, (l, W.listOf #[] nn)]) (hf : m₀ (Str.ofString "first") = some (.int 0 t0)) (hp : P [] 0)
    (turn : ∀ us nn i t (u : Str → Option Value) h tk, P us i → Fr h₀ L h (kstB (fun z => if dueStored.contains z then u z else m₀ z) [(Str.ofString "first", .int i t)]) → News h₀ L h [(l, W.listOf us.toArray nn)] →
      wpAny (model prog w) A (isTrue test env (eval test env)) (fun b s₂ =>
        if b = true then wpAny (model prog w) A (execs body env) (DuePost h₀ L s l m₀ P μ Q us nn i t) E s₂ else Q .next s₂) E { s with heap := h, toks := tk })
    (hE : PassesOwn (model prog w) A env E := by passes_own) :
    wpAny (model prog w) A (exec (.While test body [] pos) env) Q E s := by
  refine ksw_while (σ := List Value × Nat × Int × Tok) (fun c => [(l, W.listOf c.1.toArray c.2.1)]) (fun c => [(Str.ofString "first", .int c.2.2.1 c.2.2.2)]) (fun _ => True) dueStored (fun c => P c.1 c.2.2.1) (fun c => μ c.2.2.1) ([], nn, 0, t0) F (fun q hq => N q (.tail _ hq)) trivial (fun p hp => by rw [List.mem_singleton.mp hp]; exact hf) hp ?_ hE
  rintro ⟨us, nn, i, t⟩ u h tk _ hp' F' N'
  exact turn us nn i t u h tk hp' F' N'
end
theorem join_latin_eq (ks : List Int) : PySem.Txt.join (PySem.Str.ofString "") (ks.map fun k => (⟨#[k.toNat]⟩ : Str)) = latin ks := by
  have key : ∀ (ks : List Int), Str.join (PySem.Str.ofString "") (ks.map fun k => (⟨#[k.toNat]⟩ : Str)) = latin ks := by
    intro ks
    induction ks with
    | nil => rfl
    | cons k ks ih =>
      cases ks with
      | nil => rfl
      | cons k' ks =>
        show (⟨#[k.toNat]⟩ : Str) ++ PySem.Str.ofString "" ++ Str.join (PySem.Str.ofString "") ((k' :: ks).map fun k => (⟨#[k.toNat]⟩ : Str)) = _
        rw [ih]
        have e0 : PySem.Str.ofString "" = ⟨#[]⟩ := by decide +kernel
        rw [e0]
        show (⟨#[k.toNat] ++ #[] ++ ((k' :: ks).map (·.toNat)).toArray⟩ : Str) = ⟨((k :: k' :: ks).map (·.toNat)).toArray⟩
        congr 1
        apply Array.toList_inj.mp
        simp
  exact (StrLaws.glued_eq_join _ _).trans (key ks)
section
variable {prog : Program} {w : World} {A : Around} {E : Value → Shared → Prop} {s : Shared} {Q : Value → Shared → Prop}
theorem join_latin {D : Addr} {ys : List Value} {ks : List Int} {t : Tok} (hl : s.heap.IsList D ys.toArray) (hc : CarriedAll ys (ks.map fun k => PyData.str (⟨#[k.toNat]⟩ : Str))) (hn : ks.length ≤ 1048576)
    (h : ∀ t' k, Q (.str (latin ks) t') { s with toks := k }) : wpAny (model prog w) A (call (.builtin "str.join") [.str (PySem.Str.ofString "") t, .ref D]) Q E s :=
  KT.join_1 hl hc (fun _ _ => rfl) hn fun t' k _ => by rw [join_latin_eq]; exact h t' k
end
local macro_rules | `(tactic| walk_at "call builtin:len") => `(tactic| (k_here; (with_reducible show wpAny _ _ (call (Value.builtin "len") [Value.ref _]) _ _ _); k_dflt (refine' kst_len ?k1 ?k2 rfl ?k4 ?_; (case k1 => k_asm); (case k2 => k_mem); (case k4 => omega); k_whole)))
local macro_rules | `(tactic| walk_at "binaryOp Mod int int") => `(tactic| (k_here; (with_reducible show wpAny _ _ (binaryOp Operator.Mod (Value.int (List.length _ : Int) _) (Value.int 3 _)) _ _ _); refine mod_int' (by decide) ?_; (rename Int.fmod _ 3 = _ => hm9); rw [hm9]))
local macro_rules | `(tactic| walk_at "eval ListComp") => `(tactic| (k_here; k_dflt (refine ListComp_B (_F₀ := by k_asm) (by with_unfolding_all rfl) (by decide) (by rfl) (by decide) (by rfl) ?_)))
local macro_rules | `(tactic| walk_at "SrcB") => `(tactic| (k_dflt (refine' SrcB.text (fun k => (⟨#[k.toNat]⟩ : Str)) ?hh ?F ?N ?hb ?hsz (fun k9 t9 I9 oI9 C9 oC9 D9 m9 ys9 h9 tk9 E9 hk9 hk6 hk7 hC9 hx9 F9 N9 off9 ne9 _ => ?_) (fun g9 ys9 hc9 => ?_); (case hh => exact rfl); (case F => k_asm); (case N => k_asm); (case hb => first | exact (KBc.ints_picked (by assumption) _ _).trans (clip_take _ (by omega) (by omega)) | assumption); (case hsz => (simp only [List.length_take, List.length_drop]; omega))); (try dsimp only)))
local macro_rules | `(tactic| walk_at "CompEnd") => `(tactic| (exact LCg.CompEnd.intro (by k_asm) (by k_asm) _ (fun _ hp => hp) (by assumption) True.intro ⟨rfl, _, rfl⟩))
local macro_rules | `(tactic| walk_at "call builtin:str.join") => `(tactic| (k_here; (try dsimp only [List.nil_append, List.cons_append]); (with_reducible show wpAny _ _ (call (Value.builtin "str.join") [Value.str _ _, Value.ref _]) _ _ _); (with_reducible rename CarriedAll _ (List.map _ _) => ktC); (refine join_latin (by first | assumption | is_list | exact News.isList (by k_asm) (by k_mem)) ktC (by (simp only [List.length_take, List.length_drop]; omega)) ?_); intro _ _))
theorem words_1 (n : Int) {k k' : Int} (e : k = k') : Str.ofString "expected " ++ Str.ofString (toString n) ++ Str.ofString " bytes in a " ++ Str.ofString "bytes1" ++ Str.ofString ", but only " ++ Str.ofString (toString k) ++ Str.ofString " remain" = msgN " bytes in a bytes1, but only " n k' := by
  subst e
  have e1 : Str.ofString " bytes in a bytes1, but only " = Str.ofString " bytes in a " ++ Str.ofString "bytes1" ++ Str.ofString ", but only " := by decide +kernel
  unfold msgN
  rw [e1]
  simp only [PySem.Str.append_assoc]
theorem words_2 (n : Int) {k k' : Int} (e : k = k') : Str.ofString "expected " ++ Str.ofString (toString n) ++ Str.ofString " bytes in a " ++ Str.ofString "string1" ++ Str.ofString ", but only " ++ Str.ofString (toString k) ++ Str.ofString " remain" = msgN " bytes in a string1, but only " n k' := by
  subst e
  have e1 : Str.ofString " bytes in a string1, but only " = Str.ofString " bytes in a " ++ Str.ofString "string1" ++ Str.ofString ", but only " := by decide +kernel
  unfold msgN
  rw [e1]
  simp only [PySem.Str.append_assoc]
theorem due_end {h₀ h' : Heap} {L : Addr} {s : Shared} {l : Addr} {m₀ m' : Str → Option Value} {P : List Value → Int → Prop} {μ : Int → Nat} {Q : Flow → Shared → Prop} {us us' : List Value} {nn nn' : Nat} {i i' : Int} {t t' : Tok} {tk : Nat} {news' : List (Addr × Obj)}
    (F : Fr h₀ L h' m') (N : News h₀ L h' news') (hn : (l, W.listOf us'.toArray nn') ∈ news') (h1 : m' (Str.ofString "first") = some (.int i' t'))
    (h2 : ∀ z, (∀ p ∈ [(Str.ofString "first", Value.int i' t')], z ≠ p.1) → dueStored.contains z = false → m' z = m₀ z) (hp : P us' i') (hm : μ i' < μ i) :
    DuePost h₀ L s l m₀ P μ Q us nn i t .next { s with heap := h', toks := tk } :=
  ksw_end (us', nn', i', t') F N (fun p hp => by rw [List.mem_singleton.mp hp]; exact hn) trivial (fun p hp => by rw [List.mem_singleton.mp hp]; exact h1) h2 hp hm
theorem due_0 {us : List Value} {xs : List Item} {ks : List Int} {i : Int} {t : Tok} (hmod : us.length % 3 = 0) (hxs : ItemsV us xs) (hxe : xs ++ toldM 0 (ks.drop i.toNat) = toldM 0 ks) (h0 : 0 ≤ i) (h1 : i < ks.length) :
    ∃ ys, ItemsV (us ++ [.int (ks.getD i.toNat 0) t]) ys ∧ ys ++ toldM ((us ++ [Value.int (ks.getD i.toNat 0) t]).length % 3) (ks.drop (i + 1).toNat) = toldM 0 ks :=
  ⟨xs ++ [.num _], hxs.snoc .num, by rw [← hxe, told_0 ks h0 h1, List.length_append, List.length_singleton, show (us.length + 1) % 3 = 1 by omega]; simp⟩
theorem due_1 {us : List Value} {xs : List Item} {ks : List Int} {i i' : Int} {t : Tok} {b : Array UInt8} (hmod : us.length % 3 = 1) (hxs : ItemsV us xs) (hxe : xs ++ toldM 1 (ks.drop i.toNat) = toldM 0 ks) (h0 : 0 ≤ i) (h1 : i < ks.length)
    (hn : 0 ≤ ks.getD i.toNat 0) (hle : i + 1 + ks.getD i.toNat 0 ≤ ks.length) (hb : KBw.bInts b = (ks.drop (i + 1).toNat).take (ks.getD i.toNat 0).toNat) (hi : i' = i + 1 + ks.getD i.toNat 0) :
    ∃ ys, ItemsV (us ++ [.bytes b t]) ys ∧ ys ++ toldM ((us ++ [Value.bytes b t]).length % 3) (ks.drop i'.toNat) = toldM 0 ks :=
  ⟨xs ++ [.oct _], hxs.snoc (.oct hb), by rw [← hxe, told_1 ks h0 h1 hn hle, List.length_append, List.length_singleton, show (us.length + 1) % 3 = 2 by omega, hi]; simp⟩
theorem due_2 {us : List Value} {xs : List Item} {ks : List Int} {i i' : Int} {t : Tok} (hmod : us.length % 3 = 2) (hxs : ItemsV us xs) (hxe : xs ++ toldM 2 (ks.drop i.toNat) = toldM 0 ks) (h0 : 0 ≤ i) (h1 : i < ks.length)
    (hn : 0 ≤ ks.getD i.toNat 0) (hle : i + 1 + ks.getD i.toNat 0 ≤ ks.length) (hi : i' = i + 1 + ks.getD i.toNat 0) :
    ∃ ys, ItemsV (us ++ [.str (latin ((ks.drop (i + 1).toNat).take (ks.getD i.toNat 0).toNat)) t]) ys ∧ ys ++ toldM ((us ++ [Value.str (latin ((ks.drop (i + 1).toNat).take (ks.getD i.toNat 0).toNat)) t]).length % 3) (ks.drop i'.toNat) = toldM 0 ks :=
  ⟨xs ++ [.txt _], hxs.snoc .txt, by rw [← hxe, told_2 ks h0 h1 hn hle, List.length_append, List.length_singleton, show (us.length + 1) % 3 = 0 by omega, hi]; simp⟩
local macro_rules | `(tactic| walk_at "binaryOp Mod str ref") => `(tactic| (k_here; (with_reducible show wpAny _ _ (binaryOp Operator.Mod (Value.str _ _) (Value.ref _)) _ _ _); k_dflt (refine' KPt.mod_tuple ?kptN ?kptb ?kptF (meets_D1 ?h0 ?h1 ?k0 ?k1) ?_; (case kptN => k_asm); (case kptb => k_mem); (case kptF => decide +kernel); (case h0 => omega); (case h1 => omega); (case k0 => omega); (case k1 => omega)); intro _ _))
local macro_rules | `(tactic| walk_at "binaryOp Mod str ref") => `(tactic| (k_here; (with_reducible show wpAny _ _ (binaryOp Operator.Mod (Value.str _ _) (Value.ref _)) _ _ _); k_dflt (refine' KPt.mod_tuple ?kptN ?kptb ?kptF (meets_D2 ?h0 ?h1 ?k0 ?k1) ?_; (case kptN => k_asm); (case kptb => k_mem); (case kptF => decide +kernel); (case h0 => omega); (case h1 => omega); (case k0 => omega); (case k1 => omega)); intro _ _))
theorem due_c {w : World} {p : Program} {loose : List Str} {mean : ExcName → Option Value} {mg mb : Str → Option Value} {dp un : Nat} {gd : Option (List Code)} {cn : Str} {cs : Scope} {a : Addr} {ccd : Value} {cl : List (Str × Addr)} {outer : List Env} {A₀ : Around} {base h₀ : Heap} {L : Addr} {m : Str → Option Value} {s : Shared} {Q E : Value → Shared → Prop}
  {b : Array UInt8} {bt : Tok} {ks : List Int}
  (B : Below A₀ base outer h₀) (F : Fr h₀ L s.heap m) (X : (Mine.hd.heap_39 w.params).In h₀) (T : Top p loose mean mg mb h₀)
  (N : News h₀ L s.heap [])
  (hb : KBw.bInts b = ks) (hks : ks.length ≤ 20)
  (hk : cs.kind = .function) (hd : dp + 1 < recursionLimit)
  (h : ∀ l us nn h' tk', Fr h₀ L h' m → News h₀ L h' [(l, W.listOf us.toArray nn)] → KeptAll s.heap h' [] → s.heap.get? l = none → ItemsV us (toldM 0 ks) → Q (.ref l) { s with heap := h', toks := tk' }) :
  wpAny (model PySem.Challenge.rw_mr0066_01.row.prog w) (ktrTop dp un gd cn cs L a ccd cl outer) (call (.ref 96) [.bytes b bt]) Q E s := by
  revert X; k_fill; intro X
  w_on
  refine wpAny_call ?_
  refine' code_defG ?k1 ?k2 ?k3 ?k4 ?k5 ?kA ?kF ?kK ?k6 ?k7 ?k8 ?k9 ?kB ?_ ?c2 ?c3 ?c4 ?c5; (case kA => exact rfl); (case kF => exact rfl); (case kK => assumption); (case k2 => k_asm); (case k1 => k_asm); (case k3 => k_asm); (case k4 => k_asm); (case k5 => k_asm); (case k6 => k_is); (case k7 => k_is); (case k8 => k_room); (case k9 => exact BindsTo.of_eq rfl); (case kB => exact locs rfl); (case c2 => exact rfl); (case c3 => exact rfl); (case c4 => exact rfl); (case c5 => decide); k_whole; intro g' L' h' FG' F' N' B' X' T' l1; (try dsimp only); (try k_lift B'); (try k_fold)
  k_steps
  all_goals unfold Stop
  refine' due_while (fun us i => 0 ≤ i ∧ i ≤ ks.length ∧ us.length ≤ i.toNat ∧ ∃ xs, ItemsV us xs ∧ xs ++ toldM (us.length % 3) (ks.drop i.toNat) = toldM 0 ks) (fun i => (ks.length - i).toNat) ?F ?N ?hf ?hp ?turn ?hE
  case F => k_asm
  case N => k_asm
  case hf => exact rfl
  case hp => exact ⟨by decide, by omega, by simp, [], .nil, rfl⟩
  case hE => passes_own
  case turn =>
    intro us nn i t u h1 tk1 hP F' N'
    obtain ⟨hi0, hi1, hul, xs, hxs, hxe⟩ := hP
    have hmod : us.length % 3 = 0 ∨ us.length % 3 = 1 ∨ us.length % 3 = 2 := by omega
    rcases hmod with hmod | hmod | hmod
    · rw [hmod] at hxe
      have hmI : Int.fmod (us.length : Int) 3 = 0 := by rw [Int.fmod_eq_emod_of_nonneg _ (by decide)]; omega
      k_steps
      · rename News _ _ _ _ => N9
        rename Fr _ _ _ _ => F9
        simp only [List.push_toArray] at N9
        refine due_end F9 N9 (.tail _ (.tail _ (.tail _ (.head _)))) rfl (by intro z hz hs; have hz1 := hz _ (.head _); simp only [dueStored, List.contains_cons, List.contains_nil, Bool.or_false, Bool.or_eq_false_iff, beq_eq_false_iff_ne, ne_eq] at hs; dsimp only at hz1; simp [kstB, hz1, hs]) ⟨by omega, by omega, ?_, due_0 hmod hxs hxe hi0 (by omega)⟩ (by omega)
        simp only [List.length_append, List.length_cons, List.length_nil]
        omega
      · rename News _ _ _ _ => N9
        show LeaveG _ _ _ _ _ _ _ _ _
        refine leaveG_ (by assumption) N9 (fun F8 N8 K8 hn8 => ?_)
        show Q _ _
        refine h _ _ _ _ _ F8 (fun q hq => N8 q (by rw [List.mem_singleton.mp hq]; exact .head _)) K8 ((hn8 _ (.head _)).resolve_left List.not_mem_nil) ?_
        rw [← hxe, told_end _ ks (by omega)]
        exact hxs.snoc .txt
    · rw [hmod] at hxe
      have hmI : Int.fmod (us.length : Int) 3 = 1 := by rw [Int.fmod_eq_emod_of_nonneg _ (by decide)]; omega
      k_steps
      · rename News _ _ _ _ => N9
        unfold DuePost KswPost
        dsimp only
        dsimp only at N9
        show LeaveG _ _ _ _ _ _ _ _ _
        refine leaveG_ (by assumption) N9 (fun F8 N8 K8 hn8 => ?_)
        show Q _ _
        refine h _ _ _ _ _ F8 (fun q hq => N8 q (by rw [List.mem_singleton.mp hq]; exact .head _)) K8 ((hn8 _ (.head _)).resolve_left List.not_mem_nil) ?_
        rw [← hxe, told_1e ks hi0 (by omega) (by omega)]
        refine ItemsV.snoc ?_ hxs
        rw [words_1 _ (show (ks.length : Int) - i - 1 = ks.length - (i + 1) by omega)]
        exact .txt
      · rename News _ _ _ _ => N9
        rename Fr _ _ _ _ => F9
        simp only [List.push_toArray] at N9
        refine due_end F9 N9 (.tail _ (.tail _ (.tail _ (.head _)))) rfl (by intro z hz hs; have hz1 := hz _ (.head _); simp only [dueStored, List.contains_cons, List.contains_nil, Bool.or_false, Bool.or_eq_false_iff, beq_eq_false_iff_ne, ne_eq] at hs; dsimp only at hz1; simp [kstB, hz1, hs]) ⟨by omega, by omega, ?_, due_1 hmod hxs hxe hi0 (by omega) (by omega) (by omega) ((KBc.ints_picked hb _ _).trans (clip_take _ (by omega) (by omega))) (by omega)⟩ (by omega)
        simp only [List.length_append, List.length_cons, List.length_nil]
        omega
      · rename News _ _ _ _ => N9
        show LeaveG _ _ _ _ _ _ _ _ _
        refine leaveG_ (by assumption) N9 (fun F8 N8 K8 hn8 => ?_)
        show Q _ _
        refine h _ _ _ _ _ F8 (fun q hq => N8 q (by rw [List.mem_singleton.mp hq]; exact .head _)) K8 ((hn8 _ (.head _)).resolve_left List.not_mem_nil) ?_
        rw [← hxe, told_end _ ks (by omega)]
        exact hxs.snoc .txt
    · rw [hmod] at hxe
      have hmI : Int.fmod (us.length : Int) 3 = 2 := by rw [Int.fmod_eq_emod_of_nonneg _ (by decide)]; omega
      k_steps
      · rename News _ _ _ _ => N9
        unfold DuePost KswPost
        dsimp only
        dsimp only at N9
        show LeaveG _ _ _ _ _ _ _ _ _
        refine leaveG_ (by assumption) N9 (fun F8 N8 K8 hn8 => ?_)
        show Q _ _
        refine h _ _ _ _ _ F8 (fun q hq => N8 q (by rw [List.mem_singleton.mp hq]; exact .head _)) K8 ((hn8 _ (.head _)).resolve_left List.not_mem_nil) ?_
        rw [← hxe, told_2e ks hi0 (by omega) (by omega)]
        refine ItemsV.snoc ?_ hxs
        rw [words_2 _ (show (ks.length : Int) - i - 1 = ks.length - (i + 1) by omega)]
        exact .txt
      · rename News _ _ _ _ => N9
        rename Fr _ _ _ _ => F9
        simp only [List.push_toArray] at N9
        refine due_end F9 N9 (.tail _ (.tail _ (.tail _ (.head _)))) rfl (by intro z hz hs; have hz1 := hz _ (.head _); simp only [dueStored, List.contains_cons, List.contains_nil, Bool.or_false, Bool.or_eq_false_iff, beq_eq_false_iff_ne, ne_eq] at hs; dsimp only at hz1; simp [kstB, hz1, hs]) ⟨by omega, by omega, ?_, due_2 hmod hxs hxe hi0 (by omega) (by omega) (by omega) (by omega)⟩ (by omega)
        simp only [List.length_append, List.length_cons, List.length_nil]
        omega
      · rename News _ _ _ _ => N9
        show LeaveG _ _ _ _ _ _ _ _ _
        refine leaveG_ (by assumption) N9 (fun F8 N8 K8 hn8 => ?_)
        show Q _ _
        refine h _ _ _ _ _ F8 (fun q hq => N8 q (by rw [List.mem_singleton.mp hq]; exact .head _)) K8 ((hn8 _ (.head _)).resolve_left List.not_mem_nil) ?_
        rw [← hxe, told_end _ ks (by omega)]
        exact hxs.snoc .txt
end Mine
/-! part G1 -/
namespace Mine
local macro_rules | `(tactic| k_room) => `(tactic| first | exact Nat.le_of_ble_eq_true rfl | (dsimp only [Around.deeper]; omega))
local macro_rules | `(tactic| walk_at "call type:bytes") => `(tactic| (k_here; refine Stop.out ?_))
local macro_rules | `(tactic| walk_at "pyIter bytes") => `(tactic| (k_here; refine Stop.out ?_))
local macro_rules | `(tactic| walk_at "call type:type") => `(tactic| (k_here; (with_reducible show wpAny _ _ (call (Value.type "type") [Value.bytes _ _]) _ _ _); refine call_type_of (typeIs_bytes _ _ _) (by decide) ?_))
local macro_rules | `(tactic| walk_at "call type:type") => `(tactic| (k_here; (with_reducible show wpAny _ _ (call (Value.type "type") [Value.bool _]) _ _ _); refine call_type_of (Tx := "bool") rfl (by decide) ?_))
theorem and_shift (a : Int) : ∀ (k : Nat) (n : Int), 0 ≤ n → n < 2 ^ k → Builtin.bitAnd (a * 2 ^ k) n = 0
  | 0, n, h0, h1 => by
    have : n = 0 := by
      have : (2 : Int) ^ 0 = 1 := rfl
      omega
    rw [this, bitAnd_zero]
  | k + 1, n, h0, h1 => by
    have e : (2 : Int) ^ (k + 1) = 2 * 2 ^ k := by rw [Int.pow_succ, Int.mul_comm]
    have e2 : a * 2 ^ (k + 1) = 2 * (a * 2 ^ k) := by rw [e]; rw [Int.mul_left_comm]
    rw [kbt_halves, e2, show 2 * (a * 2 ^ k) / 2 = a * 2 ^ k by omega, and_shift a k (n / 2) (by omega) (by omega), if_neg (by omega)]
    rfl
theorem or256 {a n : Int} (h0 : 0 ≤ n) (h1 : n < 256) : Builtin.bitOr (a * 2 ^ Int.toNat 8) n = a * 256 + n := by
  have e := and_shift a 8 n h0 h1
  show Builtin.bitOr (a * 2 ^ 8) n = _
  rw [bitOr_and, e]
  show a * 256 + n - 0 = _
  omega
abbrev tab64 : List UInt8 := [65, 66, 67, 68, 69, 70, 71, 72, 73, 74, 75, 76, 77, 78, 79, 80, 81, 82, 83, 84, 85, 86, 87, 88, 89, 90, 97, 98, 99, 100, 101, 102, 103, 104, 105, 106, 107, 108, 109, 110, 111, 112, 113, 114, 115, 116, 117, 118, 119, 120, 121, 122, 48, 49, 50, 51, 52, 53, 54, 55, 56, 57, 43, 47]
def sgn (i : Int) : Int := (((tab64.getD i.toNat 0).toNat : Nat) : Int)
section
variable {prog : Program} {w : World} {A : Around} {E : Value → Shared → Prop} {s : Shared} {Q : Value → Shared → Prop} {t u : Tok}
theorem or256_int {a n : Int} (h0 : 0 ≤ n) (h1 : n < 256) (h : Q (.int (a * 256 + n) s.toks) { s with toks := s.toks + 1 }) : wpAny (model prog w) A (binaryOp .BitOr (.int (a * 2 ^ Int.toNat 8) t) (.int n u)) Q E s := by
  refine or_int ?_
  rw [or256 h0 h1]
  exact h
theorem and16_int {a : Int} (h : Q (.int (a % 65536) s.toks) { s with toks := s.toks + 1 }) : wpAny (model prog w) A (binaryOp .BitAnd (.int a t) (.int 65535 u)) Q E s := by
  refine and_int ?_
  rw [bitAnd_m16]
  exact h
theorem and6_int {a : Int} (h : Q (.int (a % 64) s.toks) { s with toks := s.toks + 1 }) : wpAny (model prog w) A (binaryOp .BitAnd (.int a t) (.int 63 u)) Q E s := by
  refine and_int ?_
  rw [bitAnd_m6]
  exact h
theorem and2_int {a : Int} (h : Q (.int (a % 4) s.toks) { s with toks := s.toks + 1 }) : wpAny (model prog w) A (binaryOp .BitAnd (.int a t) (.int 3 u)) Q E s := by
  refine and_int ?_
  rw [bitAnd_m2]
  exact h
theorem and4_int {a : Int} (h : Q (.int (a % 16) s.toks) { s with toks := s.toks + 1 }) : wpAny (model prog w) A (binaryOp .BitAnd (.int a t) (.int 15 u)) Q E s := by
  refine and_int ?_
  rw [bitAnd_m4]
  exact h
theorem item64 {i : Int} {ui : Tok} {value slice : Expr} (h0 : 0 ≤ i) (h1 : i < 64) (h : Q (.int (sgn i) s.toks) { s with toks := s.toks + 1 })
    (hs : subscripted slice false (.bytes tab64.toArray t) (.int i ui) = operate [.bytes tab64.toArray t, .int i ui] (getItem (.bytes tab64.toArray t) (.int i ui)) := by with_unfolding_all rfl)
    (ht : ∀ r, letTemporaryGo value (.bytes tab64.toArray t) r = pure () := by intro _; with_unfolding_all rfl) : wpAny (model prog w) A (subscriptTail value slice (.bytes tab64.toArray t) (.int i ui)) Q E s :=
  bytes_item_K (by decide) h0 h1 rfl h hs ht
end
local macro_rules | `(tactic| walk_at "binaryOp BitOr int int") => `(tactic| (k_here; (with_reducible refine or256_int (by omega) (by omega) ?_)))
local macro_rules | `(tactic| walk_at "binaryOp BitAnd int int") => `(tactic| (k_here; first | (with_reducible refine and16_int ?_) | (with_reducible refine and6_int ?_) | (with_reducible refine and2_int ?_) | (with_reducible refine and4_int ?_)))
local macro_rules | `(tactic| walk_at "subscriptTail") => `(tactic| (k_here; (with_reducible show wpAny _ _ (subscriptTail _ _ (Value.bytes _ _) (Value.int _ _)) _ _ _); (refine item64 (by first | omega | (simp only [show (2 : Int) ^ Int.toNat 4 = 16 from rfl, show (2 : Int) ^ Int.toNat 2 = 4 from rfl]; omega)) (by first | omega | (simp only [show (2 : Int) ^ Int.toNat 4 = 16 from rfl, show (2 : Int) ^ Int.toNat 2 = 4 from rfl]; omega)) ?_)))
local macro_rules | `(tactic| walk_at "call builtin:list.append") => `(tactic| (k_here; (try dsimp only [List.nil_append, List.cons_append]); (with_reducible show wpAny _ _ (call (Value.builtin _) [Value.ref _, _]) _ _ _); k_dflt (refine' append_K ?k1 ?k2 ?k3 ?_ ?z; (case k1 => k_asm); (case k2 => k_asm); (case k3 => k_upd); (case z => (simp only [Array.size_push, List.size_toArray, sizeLine_eq]; omega)); k_whole); intro h' F' N'))
section
variable {prog : Program} {w : World} {A : Around} {E : Value → Shared → Prop} {s : Shared} {env : Env} {h₀ : Heap} {x : Str} {body : List Stmt} {Q : Flow → Shared → Prop}
/-- what the loop bears: the list's values, its count, the signs, the bits left, the char left -/
abbrev B64S := List Value × Nat × List Int × Int × Int × Tok × Tok
abbrev b64Led (l : Addr) (c : B64S) : List (Addr × Obj) := [(l, W.listOf c.1.toArray c.2.1)]
abbrev b64Ps (c : B64S) : List (Str × Value) := [(Str.ofString "leftbits", .int c.2.2.2.1 c.2.2.2.2.2.1), (Str.ofString "leftchar", .int c.2.2.2.2.1 c.2.2.2.2.2.2)]
abbrev B64P (P : List Int → List Int → Int → Int → Prop) (pre : List Int) (c : B64S) : Prop := P pre c.2.2.1 c.2.2.2.1 c.2.2.2.2.1
abbrev B64End (h₀ : Heap) (env : Env) (x : Str) (l : Addr) (m₀ : Str → Option Value) (P : List Int → List Int → Int → Int → Prop) (pre : List Int) (own : List (Addr × Obj)) (s₁ : Shared) (Q : Flow → Shared → Prop) : Flow → Shared → Prop :=
  InvPostN h₀ env.locals (KstS (b64Led l) b64Ps (fun c : B64S => IntsAre c.1 c.2.2.1) x [] m₀ (B64P P) pre) own [l] s₁ Q
theorem b64_iter {b : Array UInt8} {ks : List Int} {tb : Tok} {l : Addr} {nn : Nat} {t1 t2 : Tok} {m₀ : Str → Option Value} (P : List Int → List Int → Int → Int → Prop)
    (hb : KBw.bInts b = ks) (hh : A.handled = none) (F : Fr h₀ env.locals s.heap m₀) (N : News h₀ env.locals s.heap [(l, W.listOf #[] nn)])
    (h1 : m₀ (Str.ofString "leftbits") = some (.int 0 t1)) (h2 : m₀ (Str.ofString "leftchar") = some (.int 0 t2)) (hp : P [] [] 0 0)
    (turn : ∀ vs nn out lb lc t1 t2 pre n t (u : Str → Option Value) h tk own, pre.length < ks.length → 0 ≤ n → n < 256 → OwnOff own [l] → IntsAre vs out → P pre out lb lc →
      Fr h₀ env.locals h (fun y => if y = x then some (.int n t) else kstB (fun z => if ([] : List Str).contains z then u z else m₀ z) [(Str.ofString "leftbits", .int lb t1), (Str.ofString "leftchar", .int lc t2)] y) → News h₀ env.locals h ([(l, W.listOf vs.toArray nn)] ++ own) →
      wpAny (model prog w) A (execs body env) (B64End h₀ env x l m₀ P (pre ++ [n]) own { s with heap := h, toks := tk } Q) E { s with heap := h, toks := tk })
    (done : ∀ vs nn out lb lc t1 t2 (u : Str → Option Value) h tk, IntsAre vs out → P ks out lb lc → Fr h₀ env.locals h (fun y => if y = x then u y else kstB (fun z => if ([] : List Str).contains z then u z else m₀ z) [(Str.ofString "leftbits", .int lb t1), (Str.ofString "leftchar", .int lc t2)] y) → News h₀ env.locals h [(l, W.listOf vs.toArray nn)] → Q .next { s with heap := h, toks := tk }) :
    wpAny (model prog w) A (pyIter (.bytes b tb)) (fun it s₂ => LoopAtV prog w A h₀ env x body Q E it s₂) E s := by
  refine KStb.kst_bytes (σ := B64S) (len := ks.length) (b64Led l) b64Ps (fun c => IntsAre c.1 c.2.2.1) [] (B64P P) ([], nn, [], 0, 0, t1, t2) hb rfl hh F N .nil (fun p hp => ?_) hp ?_ ?_
  · rcases List.mem_cons.mp hp with rfl | hp
    · exact h1
    · rw [List.mem_singleton.mp hp]; exact h2
  · rintro ⟨vs, nn, out, lb, lc, t1, t2⟩ pre post n t u h tk own _ hlt h0 h256 hoff hf hp' F' N'
    exact turn vs nn out lb lc t1 t2 pre n t u h tk own hlt h0 h256 hoff hf hp' F' N'
  · rintro ⟨vs, nn, out, lb, lc, t1, t2⟩ u h tk _ hf hp' F' N'
    exact done vs nn out lb lc t1 t2 u h tk hf hp' F' N'
end
def b64step (c : List Int × Int × Int) (n : Int) : List Int × Int × Int :=
  if c.2.1 = 0 then (c.1 ++ [sgn ((c.2.2 * 256 + n) % 65536 / 4 % 64)], 2, (c.2.2 * 256 + n) % 65536)
  else if c.2.1 = 2 then (c.1 ++ [sgn ((c.2.2 * 256 + n) % 65536 / 16 % 64)], 4, (c.2.2 * 256 + n) % 65536)
  else (c.1 ++ [sgn ((c.2.2 * 256 + n) % 65536 / 64 % 64)] ++ [sgn ((c.2.2 * 256 + n) % 65536 / 1 % 64)], 0, (c.2.2 * 256 + n) % 65536)
def b64st (pre : List Int) : List Int × Int × Int := pre.foldl b64step ([], 0, 0)
theorem b64st_snoc (pre : List Int) (n : Int) : b64st (pre ++ [n]) = b64step (b64st pre) n := by unfold b64st; rw [List.foldl_append]; rfl
theorem sgn_in (i : Int) : 0 ≤ sgn i ∧ sgn i < 256 := by
  unfold sgn
  have := (tab64.getD i.toNat 0).toNat_lt
  omega
structure B64I (pre out : List Int) (lb lc : Int) : Prop where
  st : (out, lb, lc) = b64st pre
  len : out.length ≤ 2 * pre.length
  lo : 0 ≤ lc
  hi : lc < 65536
  kind : lb = 0 ∨ lb = 2 ∨ lb = 4
  sg : ∀ n ∈ out, 0 ≤ n ∧ n < 256
theorem in_snoc {out : List Int} {k : Int} (h : ∀ n ∈ out, 0 ≤ n ∧ n < 256) (hk : 0 ≤ k ∧ k < 256) : ∀ n ∈ out ++ [k], 0 ≤ n ∧ n < 256 := fun n hn => by
  rcases List.mem_append.mp hn with q | q
  · exact h n q
  · rw [List.mem_singleton.mp q]; exact hk
theorem b64i_0 {pre out : List Int} {lc n : Int} (h : B64I pre out 0 lc) : B64I (pre ++ [n]) (out ++ [sgn (((lc * 256 + n) % 65536).fdiv (2 ^ (0 + 8 - 6 : Int).toNat) % 64)]) (0 + 8 - 6) ((lc * 256 + n) % 65536) := by
  have e : ((lc * 256 + n) % 65536).fdiv (2 ^ (0 + 8 - 6 : Int).toNat) = (lc * 256 + n) % 65536 / 4 := Int.fdiv_eq_ediv_of_nonneg _ (by decide)
  refine ⟨?_, by have := h.len; simp only [List.length_append, List.length_singleton]; omega, by omega, by omega, .inr (.inl rfl), in_snoc h.sg (sgn_in _)⟩
  rw [b64st_snoc, ← h.st, e]; rfl
theorem b64i_2 {pre out : List Int} {lc n : Int} (h : B64I pre out 2 lc) : B64I (pre ++ [n]) (out ++ [sgn (((lc * 256 + n) % 65536).fdiv (2 ^ (2 + 8 - 6 : Int).toNat) % 64)]) (2 + 8 - 6) ((lc * 256 + n) % 65536) := by
  have e : ((lc * 256 + n) % 65536).fdiv (2 ^ (2 + 8 - 6 : Int).toNat) = (lc * 256 + n) % 65536 / 16 := Int.fdiv_eq_ediv_of_nonneg _ (by decide)
  refine ⟨?_, by have := h.len; simp only [List.length_append, List.length_singleton]; omega, by omega, by omega, .inr (.inr rfl), in_snoc h.sg (sgn_in _)⟩
  rw [b64st_snoc, ← h.st, e]; rfl
theorem b64i_4 {pre out : List Int} {lc n : Int} (h : B64I pre out 4 lc) : B64I (pre ++ [n]) (out ++ [sgn (((lc * 256 + n) % 65536).fdiv (2 ^ (4 + 8 - 6 : Int).toNat) % 64)] ++ [sgn (((lc * 256 + n) % 65536).fdiv (2 ^ (4 + 8 - 6 - 6 : Int).toNat) % 64)]) (4 + 8 - 6 - 6) ((lc * 256 + n) % 65536) := by
  have e : ((lc * 256 + n) % 65536).fdiv (2 ^ (4 + 8 - 6 : Int).toNat) = (lc * 256 + n) % 65536 / 64 := Int.fdiv_eq_ediv_of_nonneg _ (by decide)
  have e2 : ((lc * 256 + n) % 65536).fdiv (2 ^ (4 + 8 - 6 - 6 : Int).toNat) = (lc * 256 + n) % 65536 / 1 := Int.fdiv_eq_ediv_of_nonneg _ (by decide)
  refine ⟨?_, by have := h.len; simp only [List.length_append, List.length_singleton]; omega, by omega, by omega, .inl rfl, in_snoc (in_snoc h.sg (sgn_in _)) (sgn_in _)⟩
  rw [b64st_snoc, ← h.st, e, e2]; rfl
theorem b64_end {h₀ h' : Heap} {env : Env} {x : Str} {l : Addr} {m₀ m' : Str → Option Value} {P : List Int → List Int → Int → Int → Prop} {pre : List Int} {own : List (Addr × Obj)} {s₁ : Shared} {Q : Flow → Shared → Prop} {vs : List Value} {nn : Nat} {out : List Int} {lb lc : Int} {t1 t2 : Tok} {tk : Nat}
    (F : Fr h₀ env.locals h' m') (N : News h₀ env.locals h' ((l, W.listOf vs.toArray nn) :: own)) (hI : IntsAre vs out) (h1 : m' (Str.ofString "leftbits") = some (.int lb t1)) (h2 : m' (Str.ofString "leftchar") = some (.int lc t2))
    (h3 : ∀ z, z ≠ x → z ≠ Str.ofString "leftbits" → z ≠ Str.ofString "leftchar" → m' z = m₀ z) (hp : P pre out lb lc) : B64End h₀ env x l m₀ P pre own s₁ Q .next { s₁ with heap := h', toks := tk } :=
  ⟨h', tk, m', _, [(l, W.listOf vs.toArray nn)], rfl, F, N, fun q hq => by rw [List.mem_singleton.mp hq]; exact .head _, fun q hq => .tail _ hq, rfl,
    ⟨(vs, nn, out, lb, lc, t1, t2), rfl, hI, fun p hp => by
      rcases List.mem_cons.mp hp with rfl | hp
      · exact h1
      · rw [List.mem_singleton.mp hp]; exact h2, fun z hz hn _ => h3 z hz (hn _ (.head _)) (hn _ (.tail _ (.head _))), hp⟩⟩
def b64L (ks : List Int) : List Int :=
  if (b64st ks).2.1 = 0 then (b64st ks).1
  else if (b64st ks).2.1 = 2 then (b64st ks).1 ++ [sgn ((b64st ks).2.2 % 4 * 2 ^ Int.toNat 4)] ++ [61] ++ [61]
  else (b64st ks).1 ++ [sgn ((b64st ks).2.2 % 16 * 2 ^ Int.toNat 2)] ++ [61]
theorem b64L_0 {ks out : List Int} {lc : Int} (h : B64I ks out 0 lc) : b64L ks = out := by
  unfold b64L; rw [← h.st]; rfl
theorem b64L_2 {ks out : List Int} {lc : Int} (h : B64I ks out 2 lc) : b64L ks = out ++ [sgn (lc % 4 * 2 ^ Int.toNat 4)] ++ [61] ++ [61] := by
  unfold b64L; rw [← h.st]; rfl
theorem b64L_4 {ks out : List Int} {lc : Int} (h : B64I ks out 4 lc) : b64L ks = out ++ [sgn (lc % 16 * 2 ^ Int.toNat 2)] ++ [61] := by
  unfold b64L; rw [← h.st]; rfl
theorem b64_c {w : World} {p : Program} {loose : List Str} {mean : ExcName → Option Value} {mg mb : Str → Option Value} {dp un : Nat} {gd : Option (List Code)} {cn : Str} {cs : Scope} {a : Addr} {ccd : Value} {cl : List (Str × Addr)} {outer : List Env} {A₀ : Around} {base h₀ : Heap} {L : Addr} {m : Str → Option Value} {s : Shared} {Q E : Value → Shared → Prop}
  {b : Array UInt8} {bt : Tok} {ks : List Int}
  (B : Below A₀ base outer h₀) (F : Fr h₀ L s.heap m) (X : (Mine.hd.heap_39 w.params).In h₀) (T : Top p loose mean mg mb h₀)
  (N : News h₀ L s.heap [])
  (hb : KBw.bInts b = ks) (hks : ks.length ≤ 20)
  (hk : cs.kind = .function) (hd : dp + 3 < recursionLimit)
  (h : ∀ t h' tk', Fr h₀ L h' m → KeptAll s.heap h' [] → Q (.bytes (byteArr (b64L ks)) t) { s with heap := h', toks := tk' }) :
  wpAny (model PySem.Challenge.rw_mr0066_01.row.prog w) (ktrTop dp un gd cn cs L a ccd cl outer) (call (.ref 72) [.bytes b bt]) Q E s := by
  revert X; k_fill; intro X
  w_on
  refine wpAny_call ?_
  refine' code_defG ?k1 ?k2 ?k3 ?k4 ?k5 ?kA ?kF ?kK ?k6 ?k7 ?k8 ?k9 ?kB ?_ ?c2 ?c3 ?c4 ?c5; (case kA => exact rfl); (case kF => exact rfl); (case kK => assumption); (case k2 => k_asm); (case k1 => k_asm); (case k3 => k_asm); (case k4 => k_asm); (case k5 => k_asm); (case k6 => k_is); (case k7 => k_is); (case k8 => k_room); (case k9 => first | exact BindsTo.of_eq rfl | exact binds_K (by k_in) rfl (by k_is) rfl rfl rfl); (case kB => exact locs rfl); (case c2 => exact rfl); (case c3 => exact rfl); (case c4 => exact rfl); (case c5 => decide); k_whole; intro g' L' h' FG' F' N' B' X' T' l1; (try dsimp only); (try k_lift B'); (try k_fold)
  k_steps
  all_goals unfold Stop
  refine' b64_iter B64I ?hb ?hh ?F ?N ?h1 ?h2 ?hp ?turn ?done
  case hb => assumption
  case hh => exact rfl
  case F => k_asm
  case N => k_asm
  case h1 => exact rfl
  case h2 => exact rfl
  case hp => exact ⟨rfl, by simp, by decide, by decide, .inl rfl, fun _ h => nomatch h⟩
  case turn =>
    intro vs nn out lb lc t1 t2 pre n t u h1 tk own hlt hn0 hn1 hoff hI hP F' N'
    have hol := hP.len
    have hlc0 := hP.lo
    have hlc1 := hP.hi
    have hvl := hI.length
    rcases hP.kind with rfl | rfl | rfl
    · k_steps
      rename News _ _ _ _ => N9
      rename Fr _ _ _ _ => F9
      simp only [List.push_toArray] at N9
      exact b64_end F9 N9 (IntsAre.append hI (.cons _ _ .nil)) rfl rfl (by intro z hz hz1 hz2; simp [kstB, hz, hz1, hz2]) (b64i_0 hP)
    · k_steps
      rename News _ _ _ _ => N9
      rename Fr _ _ _ _ => F9
      simp only [List.push_toArray] at N9
      exact b64_end F9 N9 (IntsAre.append hI (.cons _ _ .nil)) rfl rfl (by intro z hz hz1 hz2; simp [kstB, hz, hz1, hz2]) (b64i_2 hP)
    · k_steps
      rename News _ _ _ _ => N9
      rename Fr _ _ _ _ => F9
      simp only [List.push_toArray] at N9
      exact b64_end F9 N9 (IntsAre.append (IntsAre.append hI (.cons _ _ .nil)) (.cons _ _ .nil)) rfl rfl (by intro z hz hz1 hz2; simp [kstB, hz, hz1, hz2]) (b64i_4 hP)
  case done =>
    intro vs nn out lb lc t1 t2 u h1 tk hI hP F' N'
    have hol := hP.len
    have hlc0 := hP.lo
    have hlc1 := hP.hi
    have hvl := hI.length
    rcases hP.kind with rfl | rfl | rfl
    · k_steps
      unfold Stop
      rename News _ _ _ _ => N9
      rename Fr _ _ _ _ => F9
      refine KBa.make_K F9 N9 rfl (News.isList N9 (.head _)) hI hP.sg (by (try simp only [List.length_append, List.length_singleton]); omega) (fun h9 t9 k9 F8 N8 _ => ?_)
      rw [← b64L_0 hP]
      k_steps
      rename News _ _ _ _ => N7
      rename Fr _ _ _ _ => F7
      refine leaveG_ F7 N7 (fun F6 N6 K6 hn6 => ?_)
      show Q _ _
      exact h _ _ _ F6 K6
    · k_steps
      unfold Stop
      rename News _ _ _ _ => N9
      rename Fr _ _ _ _ => F9
      simp only [List.push_toArray] at N9
      refine KBa.make_K F9 N9 rfl (News.isList N9 (.head _)) (IntsAre.append (IntsAre.append (IntsAre.append hI (.cons _ _ .nil)) (.cons _ _ .nil)) (.cons _ _ .nil)) (in_snoc (in_snoc (in_snoc hP.sg (sgn_in _)) (by decide)) (by decide)) (by (try simp only [List.length_append, List.length_singleton]); omega) (fun h9 t9 k9 F8 N8 _ => ?_)
      rw [← b64L_2 hP]
      k_steps
      rename News _ _ _ _ => N7
      rename Fr _ _ _ _ => F7
      refine leaveG_ F7 N7 (fun F6 N6 K6 hn6 => ?_)
      show Q _ _
      exact h _ _ _ F6 K6
    · k_steps
      unfold Stop
      rename News _ _ _ _ => N9
      rename Fr _ _ _ _ => F9
      simp only [List.push_toArray] at N9
      refine KBa.make_K F9 N9 rfl (News.isList N9 (.head _)) (IntsAre.append (IntsAre.append hI (.cons _ _ .nil)) (.cons _ _ .nil)) (in_snoc (in_snoc hP.sg (sgn_in _)) (by decide)) (by (try simp only [List.length_append, List.length_singleton]); omega) (fun h9 t9 k9 F8 N8 _ => ?_)
      rw [← b64L_4 hP]
      k_steps
      rename News _ _ _ _ => N7
      rename Fr _ _ _ _ => F7
      refine leaveG_ F7 N7 (fun F6 N6 K6 hn6 => ?_)
      show Q _ _
      exact h _ _ _ F6 K6
end Mine
/-! part D2 -/
namespace Mine
open Builtin
theorem slot_bytes_find : Slot "bytes" "find" "bytes.find" :=
  .of (owner := "bytes") (n := "find") (by rw [typeLookup_type, builtinLookup_eq_fast]; kernel_rfl) (by decide +kernel) (by decide +kernel) (by decide +kernel)
    (by first | exact .inl (by decide +kernel) | exact .inr (by decide +kernel)) (by rw [isSubtype_type]; kernel_rfl)
theorem entry_bytes_find : entryFor table "bytes.find" = some Builtin.«bytes.find» := entryFor_of_tree (by kernel_rfl)
theorem args_bytes_find (a b : Value) : argsOk "bytes.find" ⟨[a, b], []⟩ := by unfold argsOk; kernel_rfl
theorem look_int_buffer : typeLookup (.type "int") "__buffer__" = pure none := by rw [typeLookup_type, builtinLookup_eq_fast]; kernel_rfl
theorem special_int {k : Int} {u : Tok} {name : PySem.Str} {r : Option Value} (h : typeLookup (.type "int") name = pure r) : specialOf (.int k u) name = pure r := by
  unfold specialOf
  show (pure (.type "int") >>= fun t => typeLookup t name) = pure r
  rw [pure_bind, h]
theorem buffer_int {id : String} {k : Int} {u : Tok} : Bytes.buffer? id (.int k u) = pure none := by
  unfold Bytes.buffer?
  rw [special_int look_int_buffer]
  kernel_rfl
theorem look_int_index : typeLookup (.type "int") "__index__" = pure (some (.builtin "int.__index__")) := by rw [typeLookup_type, builtinLookup_eq_fast]; kernel_rfl
theorem index_held {b : Array UInt8} {t u : Tok} {k : Int} : Bytes.indexHeld [.bytes b t] (.int k u) = pure k := by kernel_rfl
theorem find_tab : ∀ n : Fin 64, Bytes.find? tab64.toArray #[(sgn (n.val : Int)).toNat.toUInt8] 0 64 = some n.val := by decide +kernel
theorem find_sgn {i : Int} (h0 : 0 ≤ i) (h1 : i < 64) : Bytes.find? tab64.toArray #[(sgn i).toNat.toUInt8] 0 64 = some i.toNat := by
  have := find_tab ⟨i.toNat, by omega⟩
  rw [show ((⟨i.toNat, by omega⟩ : Fin 64).val : Int) = i by show ((i.toNat : Nat) : Int) = i; omega] at this
  exact this
theorem meets_find {t u : Tok} {k : Int} : Meets («bytes.find» ⟨[.bytes tab64.toArray t, .int k u], []⟩) (fun _ R s => ∃ i, k = sgn i ∧ 0 ≤ i ∧ i < 64 ∧ R (.ok (.ret (.int i s.toks))) { s with toks := s.toks + 1 }) := by
  refine .of_wp fun prog w A R s hS => ?_
  obtain ⟨i, rfl, h0, h1, h⟩ := hS
  have hk := sgn_in i
  show wpAny _ _ (Bytes.searchArgs .bytes "find" ⟨[.bytes tab64.toArray t, .int (sgn i) u], []⟩ >>= fun r => _) _ _ s
  refine wpAny_bind ?_
  unfold Bytes.searchArgs
  refine wpAny_bind (wpAny_of_eq (a := (Value.bytes tab64.toArray t, [Value.int (sgn i) u])) rfl ?_)
  refine wpAny_bind (wpAny_of_eq (a := none) rfl ?_)
  refine wpAny_bind (wpAny_of_eq (a := none) rfl ?_)
  refine wpAny_bind (wpAny_of_eq buffer_int ?_)
  refine wpAny_bind (wpAny_of_eq (special_int look_int_index) ?_)
  refine bm_if_false rfl ?_
  refine wpAny_bind (wpAny_of_eq index_held ?_)
  refine bm_if_false (by rw [Bool.or_eq_false_iff]; exact ⟨decide_eq_false (by omega), decide_eq_false (by omega)⟩) ?_
  refine wpAny_bind (wpAny_pure ?_)
  refine wpAny_bind (wpAny_of_eq (a := tab64.toArray) rfl ?_)
  refine wpAny_pure ?_
  show wpAny _ _ (match Bytes.find? tab64.toArray #[(sgn i).toNat.toUInt8] 0 64 with | some i => retInt i | none => _) _ _ s
  rw [find_sgn h0 h1]
  show wpAny _ _ (mkInt (i.toNat : Int) >>= fun v => ret v) _ _ s
  rw [show ((i.toNat : Nat) : Int) = i by omega]
  exact wpAny_bind (wpAny_mkInt (wpAny_pure ⟨_, rfl, h⟩))
section
variable {prog : Program} {w : World} {A : Around} {E : Value → Shared → Prop} {s : Shared} {Q : Value → Shared → Prop}
theorem type_bytes_find : typeOf (.builtin "bytes.find") = pure (.type "method_descriptor") := by show builtinType _ = _; rw [builtinType_eq_fast]; kernel_rfl
theorem find_method {M : Model} {b : Array UInt8} {t : Tok} {pl : Sem Bool} {Q : Value × List Value → Shared → Prop} (h : Q (.builtin "bytes.find", [.bytes b t]) s) : wpAny M A (getMethod (.bytes b t) (PySem.Str.ofString "find") pl) Q E s := by
  exact KBd.method_of (.bytes b t) (typeIs_bytes _ _ _) slot_bytes_find type_bytes_find KBd.noRef h
theorem find_c {t u : Tok} {k i : Int} (hk : k = sgn i) (h0 : 0 ≤ i) (h1 : i < 64) (h : Q (.int i s.toks) { s with toks := s.toks + 1 }) :
    wpAny (model prog w) A (call (.builtin "bytes.find") [.bytes tab64.toArray t, .int k u]) Q E s :=
  call_meets slot_bytes_find (typeIs_bytes _ _ _) entry_bytes_find (args_bytes_find _ _) meets_find ⟨i, hk, h0, h1, h⟩
end
end Mine
/-! part X0 -/
namespace Mine
theorem div_div (m : Int) {n k : Int} (hn : 0 ≤ n) : m / n / k = m / (n * k) := by
  rw [Int.ediv_ediv, if_neg (by omega)]
  omega
def valB (pre : List Int) : Int := pre.foldl (fun a x => a * 256 + x) 0
theorem valB_snoc (pre : List Int) (x : Int) : valB (pre ++ [x]) = valB pre * 256 + x := by unfold valB; rw [List.foldl_append]; rfl
theorem all_snoc {P : List Int → Prop} (h0 : P []) (h1 : ∀ l x, P l → P (l ++ [x])) (l : List Int) : P l := by
  have key : ∀ (r pre : List Int), P pre → P (pre ++ r) := by
    intro r
    induction r with
    | nil => intro pre h; rw [List.append_nil]; exact h
    | cons x r ih => intro pre h; rw [show pre ++ x :: r = (pre ++ [x]) ++ r by simp]; exact ih _ (h1 _ _ h)
  exact key l [] h0
/-- the sixes so far -/
structure SixI (ks ss : List Int) (lb : Nat) : Prop where
  st : b64st ks = (ss.map sgn, (lb : Int), valB ks % 65536)
  kind : lb = 0 ∨ lb = 2 ∨ lb = 4
  rng : ∀ x ∈ ss, 0 ≤ x ∧ x < 64
  len : 6 * ss.length + lb = 8 * ks.length
  num : numL ss = valB ks / 2 ^ lb
theorem rng_snoc {ss : List Int} {x : Int} (h : ∀ x ∈ ss, 0 ≤ x ∧ x < 64) (hx : 0 ≤ x ∧ x < 64) : ∀ y ∈ ss ++ [x], 0 ≤ y ∧ y < 64 := fun y hy => by
  rcases List.mem_append.mp hy with q | q
  · exact h y q
  · rw [List.mem_singleton.mp q]; exact hx
theorem sixI_step {ks ss : List Int} {lb : Nat} {n : Int} (h : SixI ks ss lb) (h0 : 0 ≤ n) (h1 : n < 256) : ∃ ss' lb', SixI (ks ++ [n]) ss' lb' := by
  obtain ⟨st, kind, rng, len, num⟩ := h
  have e : (valB ks % 65536 * 256 + n) % 65536 = (valB ks * 256 + n) % 65536 := by omega
  rcases kind with rfl | rfl | rfl
  · refine ⟨ss ++ [(valB ks * 256 + n) % 65536 / 4 % 64], 2, ?_, .inr (.inl rfl), rng_snoc rng (by omega), by simp only [List.length_append, List.length_singleton]; omega, ?_⟩
    · rw [b64st_snoc, st, valB_snoc, List.map_append, ← e]; rfl
    · rw [numL_snoc, num, valB_snoc]
      show valB ks / 1 * 64 + _ = (valB ks * 256 + n) / 4
      omega
  · refine ⟨ss ++ [(valB ks * 256 + n) % 65536 / 16 % 64], 4, ?_, .inr (.inr rfl), rng_snoc rng (by omega), by simp only [List.length_append, List.length_singleton]; omega, ?_⟩
    · rw [b64st_snoc, st, valB_snoc, List.map_append, ← e]; rfl
    · rw [numL_snoc, num, valB_snoc]
      show valB ks / 4 * 64 + _ = (valB ks * 256 + n) / 16
      omega
  · refine ⟨ss ++ [(valB ks * 256 + n) % 65536 / 64 % 64] ++ [(valB ks * 256 + n) % 65536 / 1 % 64], 0, ?_, .inl rfl, rng_snoc (rng_snoc rng (by omega)) (by omega), by simp only [List.length_append, List.length_singleton]; omega, ?_⟩
    · rw [b64st_snoc, st, valB_snoc, List.map_append, List.map_append, ← e]; rfl
    · rw [numL_snoc, numL_snoc, num, valB_snoc]
      show (valB ks / 16 * 64 + _) * 64 + _ = (valB ks * 256 + n) / 1
      omega
theorem sixI_all (ks : List Int) (h : ∀ x ∈ ks, 0 ≤ x ∧ x < 256) : ∃ ss lb, SixI ks ss lb := by
  revert h
  refine all_snoc (P := fun ks => (∀ x ∈ ks, 0 ≤ x ∧ x < 256) → ∃ ss lb, SixI ks ss lb) (fun _ => ⟨[], 0, rfl, .inl rfl, fun _ h => (nomatch h), rfl, rfl⟩) (fun l x ih h => ?_) ks
  obtain ⟨ss, lb, H⟩ := ih fun y hy => h y (List.mem_append.mpr (.inl hy))
  have hx := h x (List.mem_append.mpr (.inr (.head _)))
  exact sixI_step H hx.1 hx.2
/-- a beginning is a division -/
theorem numL_app (a b : List Int) (h : ∀ x ∈ b, 0 ≤ x ∧ x < 64) : numL a = numL (a ++ b) / 64 ^ b.length := by
  revert h
  refine all_snoc (P := fun b => (∀ x ∈ b, 0 ≤ x ∧ x < 64) → numL a = numL (a ++ b) / 64 ^ b.length) (fun _ => by simp) (fun l x ih h => ?_) b
  have hx := h x (List.mem_append.mpr (.inr (.head _)))
  have := ih fun y hy => h y (List.mem_append.mpr (.inl hy))
  rw [← List.append_assoc, numL_snoc, List.length_append, List.length_singleton, Int.pow_succ, Int.mul_comm (64 ^ l.length) 64, ← div_div _ (by decide), show (numL (a ++ l) * 64 + x) / 64 = numL (a ++ l) by omega]
  exact this
theorem valB_app (a b : List Int) (h : ∀ x ∈ b, 0 ≤ x ∧ x < 256) : valB a = valB (a ++ b) / 256 ^ b.length := by
  revert h
  refine all_snoc (P := fun b => (∀ x ∈ b, 0 ≤ x ∧ x < 256) → valB a = valB (a ++ b) / 256 ^ b.length) (fun _ => by simp) (fun l x ih h => ?_) b
  have hx := h x (List.mem_append.mpr (.inr (.head _)))
  have := ih fun y hy => h y (List.mem_append.mpr (.inl hy))
  rw [← List.append_assoc, valB_snoc, List.length_append, List.length_singleton, Int.pow_succ, Int.mul_comm (256 ^ l.length) 256, ← div_div _ (by decide), show (valB (a ++ l) * 256 + x) / 256 = valB (a ++ l) by omega]
  exact this
theorem valB_digit (ks : List Int) (h : ∀ x ∈ ks, 0 ≤ x ∧ x < 256) (j : Nat) (hj : j < ks.length) : valB ks / 256 ^ (ks.length - 1 - j) % 256 = ks[j] := by
  have e : ks.take j ++ [ks[j]] ++ ks.drop (j + 1) = ks := by rw [List.append_assoc]; simp
  have := valB_app (ks.take j ++ [ks[j]]) (ks.drop (j + 1)) (fun x hx => h x (List.mem_of_mem_drop hx))
  rw [e, valB_snoc, List.length_drop, show ks.length - (j + 1) = ks.length - 1 - j by omega] at this
  have hx := h ks[j] (List.getElem_mem hj)
  rw [← this]
  omega
theorem p64 (n : Nat) : (64 : Int) ^ n = 2 ^ (6 * n) := by rw [Int.pow_mul]; rfl
theorem p256 (n : Nat) : (256 : Int) ^ n = 2 ^ (8 * n) := by rw [Int.pow_mul]; rfl
theorem pp0 (n : Nat) : (0 : Int) ≤ 2 ^ n := Int.le_of_lt (Int.pow_pos (by decide))
theorem fill_of {ks ss : List Int} {pad : Nat} (hk : ∀ x ∈ ks, 0 ≤ x ∧ x < 256) (hs : ∀ x ∈ ss, 0 ≤ x ∧ x < 64) (hl : 6 * ss.length = 8 * ks.length + pad) (hp : pad < 6) (hv : numL ss = valB ks * 2 ^ pad) (k : Nat) (hkk : k ≤ ss.length) : filledL (ss.take k) = ks.take (k * 6 / 8) := by
  have hln : (ss.take k).length = k := by rw [List.length_take]; omega
  have hc : k * 6 / 8 ≤ ks.length := by omega
  unfold filledL rangeKs
  rw [hln]
  have e1 : ((k : Int) * 6).fdiv 8 = ((k * 6 / 8 : Nat) : Int) := by rw [Int.fdiv_eq_ediv_of_nonneg _ (by decide)]; omega
  have e2 : (((k : Int) * 6).fmod 8).toNat = k * 6 % 8 := by rw [Int.fmod_eq_emod_of_nonneg _ (by decide)]; omega
  rw [e1, e2, show (((k * 6 / 8 : Nat) : Int) - 0).toNat = k * 6 / 8 by omega]
  have hn := numL_app (ss.take k) (ss.drop k) (fun x hx => hs x (List.mem_of_mem_drop hx))
  rw [List.take_append_drop, List.length_drop, hv, p64] at hn
  refine List.ext_getElem (by simp; omega) fun j h1 h2 => ?_
  have hj : j < k * 6 / 8 := by simpa using h1
  rw [List.getElem_map, List.getElem_map, List.getElem_range, List.getElem_take]
  rw [Int.fdiv_eq_ediv_of_nonneg _ (pp0 _), p256, Int.fdiv_eq_ediv_of_nonneg _ (pp0 _), Int.fmod_eq_emod_of_nonneg _ (by decide)]
  rw [show (((k * 6 / 8 : Nat) : Int) - 1 - (0 + (j : Int))).toNat = k * 6 / 8 - 1 - j by omega]
  rw [hn, div_div _ (pp0 _), div_div _ (pp0 _), ← Int.pow_add, ← Int.pow_add]
  rw [show 6 * (ss.length - k) + (k * 6 % 8 + 8 * (k * 6 / 8 - 1 - j)) = pad + 8 * (ks.length - 1 - j) by omega, Int.pow_add, ← div_div _ (pp0 _), Int.mul_ediv_cancel _ (Int.ne_of_gt (Int.pow_pos (by decide))), ← p256]
  exact valB_digit ks hk j (by omega)
/-- the sixes of the octets ks -/
structure Sixes (ks ss : List Int) : Prop where
  len : ss.length = (8 * ks.length + 5) / 6
  rng : ∀ x ∈ ss, 0 ≤ x ∧ x < 64
  fill : ∀ k, k ≤ ss.length → filledL (ss.take k) = ks.take (k * 6 / 8)
/-- what b64encode writes -/
theorem b64_sixes (ks : List Int) (h : ∀ x ∈ ks, 0 ≤ x ∧ x < 256) : ∃ ss, Sixes ks ss ∧ b64L ks = ss.map sgn ++ List.replicate ((3 - ks.length % 3) % 3) 61 := by
  obtain ⟨ss, lb, st, kind, rng, len, num⟩ := sixI_all ks h
  rcases kind with rfl | rfl | rfl
  · refine ⟨ss, ⟨by omega, rng, fill_of (pad := 0) h rng (by omega) (by decide) ?_⟩, ?_⟩
    · rw [num]; show valB ks / 1 = valB ks * 1; omega
    · unfold b64L
      rw [st, show (3 - ks.length % 3) % 3 = 0 by omega]
      show ss.map sgn = _
      rw [List.replicate_zero, List.append_nil]
  · have hr := rng_snoc rng (x := valB ks % 65536 % 4 * 16) (by omega)
    refine ⟨ss ++ [valB ks % 65536 % 4 * 16], ⟨by simp only [List.length_append, List.length_singleton]; omega, hr, fill_of (pad := 4) h hr (by simp only [List.length_append, List.length_singleton]; omega) (by decide) ?_⟩, ?_⟩
    · rw [numL_snoc, num]; show valB ks / 4 * 64 + _ = valB ks * 16; omega
    · unfold b64L
      rw [st, show (3 - ks.length % 3) % 3 = 2 by omega, List.map_append]
      show List.map sgn ss ++ [sgn (valB ks % 65536 % 4 * 16)] ++ [61] ++ [61] = List.map sgn ss ++ [sgn (valB ks % 65536 % 4 * 16)] ++ [61, 61]
      simp
  · have hr := rng_snoc rng (x := valB ks % 65536 % 16 * 4) (by omega)
    refine ⟨ss ++ [valB ks % 65536 % 16 * 4], ⟨by simp only [List.length_append, List.length_singleton]; omega, hr, fill_of (pad := 2) h hr (by simp only [List.length_append, List.length_singleton]; omega) (by decide) ?_⟩, ?_⟩
    · rw [numL_snoc, num]; show valB ks / 16 * 64 + _ = valB ks * 4; omega
    · unfold b64L
      rw [st, show (3 - ks.length % 3) % 3 = 1 by omega, List.map_append]
      rfl
end Mine
/-! part X1 -/
namespace Mine
theorem news_kept {h₀ h h' : Heap} {L : Addr} {news : List (Addr × Obj)} {adr : List Addr} (N : News h₀ L h news) (K : KeptAll h h' adr) (hd : ∀ p ∈ news, p.1 ∉ adr) : News h₀ L h' news :=
  fun p hp => ⟨K _ _ (N p hp).1 (hd p hp), (N p hp).2⟩
theorem bInts_inj {a b : Array UInt8} (h : KBw.bInts a = KBw.bInts b) : a = b := by
  unfold KBw.bInts at h
  apply Array.toList_inj.mp
  have key : ∀ (l m : List UInt8), (l.map fun c => (c.toNat : Int)) = (m.map fun c => (c.toNat : Int)) → l = m := by
    intro l
    induction l with
    | nil => intro m h; cases m with
      | nil => rfl
      | cons _ _ => simp at h
    | cons x l ih => intro m h; cases m with
      | nil => simp at h
      | cons y m =>
        simp only [List.map_cons, List.cons.injEq] at h
        have hxy : x = y := UInt8.toNat_inj.mp (by omega)
        rw [hxy, ih m h.2]
  exact key _ _ h
def idx64 (k : Int) : Int := ((((List.range 64).find? fun n : Nat => sgn (n : Int) == k).getD 0 : Nat) : Int)
theorem idx_tab : ∀ n : Fin 64, idx64 (sgn (n.val : Int)) = (n.val : Int) := by decide +kernel
theorem idx_sgn {i : Int} (h0 : 0 ≤ i) (h1 : i < 64) : idx64 (sgn i) = i := by
  have := idx_tab ⟨i.toNat, by omega⟩
  rw [show ((⟨i.toNat, by omega⟩ : Fin 64).val : Int) = i by show ((i.toNat : Nat) : Int) = i; omega] at this
  exact this
theorem idx_all (ss : List Int) (h : ∀ x ∈ ss, 0 ≤ x ∧ x < 64) : (ss.map sgn).map idx64 = ss := by
  rw [List.map_map]
  conv => rhs; rw [← List.map_id ss]
  refine List.map_congr_left fun x hx => ?_
  exact idx_sgn (h x hx).1 (h x hx).2
section
variable {prog : Program} {w : World} {A : Around} {E : Value → Shared → Prop} {s : Shared} {Q : Value → Shared → Prop} {h₀ : Heap} {L : Addr} {m : Str → Option Value} {news : List (Addr × Obj)}
theorem find_use {t u : Tok} {k : Int} {ss : List Int} (hk : k ∈ ss.map sgn) (hr : ∀ x ∈ ss, 0 ≤ x ∧ x < 64) (h : Q (.int (idx64 k) s.toks) { s with toks := s.toks + 1 }) :
    wpAny (model prog w) A (call (.builtin "bytes.find") [.bytes tab64.toArray t, .int k u]) Q E s := by
  obtain ⟨i, hi, rfl⟩ := List.mem_map.mp hk
  obtain ⟨h0, h1⟩ := hr i hi
  rw [idx_sgn h0 h1] at h
  exact find_c rfl h0 h1 h
theorem ne_use {a b : Array UInt8} {t u : Tok} {xs : List Int} (ha : KBw.bInts a = xs) (hb : KBw.bInts b = xs) (h : Q (.bool false) s) : wpAny (model prog w) A (compareOp .NotEq (.bytes a t) (.bytes b u)) Q E s := by
  have e : a = b := bInts_inj (ha.trans hb.symm)
  subst e
  refine ne_bytes ?_
  rw [show (a.toList != a.toList) = false by simp]
  exact h
theorem bytes_any {l : Addr} {vs : List Value} {ns : List Int} (F : Fr h₀ L s.heap m) (N : News h₀ L s.heap news) (hh : A.handled = none) (hl : s.heap.IsList l vs.toArray) (hi : IntsAre vs ns) (hr : ∀ n ∈ ns, 0 ≤ n ∧ n < 256) (h8 : 8 ≤ ns.length) (h14 : ns.length ≤ 14)
    (h : ∀ b t' h' k ks, KBw.bInts b = ks → 8 ≤ ks.length → ks.length ≤ 14 → Fr h₀ L h' m → News h₀ L h' news → Q (.bytes b t') { s with heap := h', toks := k }) : wpAny (model prog w) A (call (.type "bytes") [.ref l]) Q E s :=
  KBa.make_K F N hh hl hi hr (by omega) fun h' t' k F' N' hr' => h _ t' h' k ns (KBa.ints_make hr') h8 h14 F' N'
end
theorem many_nat (n : Nat) : (8 * (n : Int) + 5).fdiv 6 = (((8 * n + 5) / 6 : Nat) : Int) := by
  rw [Int.fdiv_eq_ediv_of_nonneg _ (by decide)]
  omega
theorem cut_hi {B : Array UInt8} {ss ws : List Int} {n r : Nat} (hB : KBw.bInts B = ws) (hw : ws = ss.map sgn ++ List.replicate r 61) (hl : ss.length = (8 * n + 5) / 6) :
    KBw.bInts (KBy.picked B (some ((8 * (n : Int) + 5).fdiv 6)) none) = List.replicate r 61 := by
  rw [KBc.ints_picked hB, many_nat]
  show List.take (ws.length - clipAt ws.length _) (List.drop (clipAt ws.length _) ws) = _
  rw [clipAt_nat, hw]
  have e : min ((8 * n + 5) / 6) (ss.map sgn ++ List.replicate r (61 : Int)).length = (ss.map sgn).length := by
    simp only [List.length_append, List.length_map, List.length_replicate]; omega
  rw [e, List.drop_left, List.take_of_length_le (by simp)]
theorem cut_lo {B : Array UInt8} {ss ws : List Int} {n r : Nat} (hB : KBw.bInts B = ws) (hw : ws = ss.map sgn ++ List.replicate r 61) (hl : ss.length = (8 * n + 5) / 6) :
    KBw.bInts (KBy.picked B none (some ((8 * (n : Int) + 5).fdiv 6))) = ss.map sgn := by
  rw [KBc.ints_picked hB, many_nat]
  show List.take (clipAt ws.length _ - 0) (List.drop 0 ws) = _
  rw [clipAt_nat, hw, List.drop_zero, Nat.sub_zero]
  have e : min ((8 * n + 5) / 6) (ss.map sgn ++ List.replicate r (61 : Int)).length = (ss.map sgn).length := by
    simp only [List.length_append, List.length_map, List.length_replicate]; omega
  rw [e, List.take_left]
theorem eqs_ints (k : Nat) : KBw.bInts ((List.replicate k [(61 : UInt8)]).flatten).toArray = List.replicate k 61 := by
  rw [KBw.ints_list]
  induction k with
  | zero => rfl
  | succ k ih => rw [List.replicate_succ, List.flatten_cons, List.map_append, ih, List.replicate_succ]; rfl
section
variable {prog : Program} {w : World} {A : Around} {E : Value → Shared → Prop} {s : Shared} {Q : Value → Shared → Prop}
theorem ne_cut {B : Array UInt8} {t u : Tok} {ks ss ws : List Int} (hB : KBw.bInts B = ws) (hw : ws = ss.map sgn ++ List.replicate ((3 - ks.length % 3) % 3) 61) (hl : ss.length = (8 * ks.length + 5) / 6) (h : Q (.bool false) s) :
    wpAny (model prog w) A (compareOp .NotEq (.bytes (KBy.picked B (some ((8 * (ks.length : Int) + 5).fdiv 6)) none) t) (.bytes ((List.replicate ((-(ks.length : Int)).fmod 3).toNat [(61 : UInt8)]).flatten).toArray u)) Q E s := by
  refine ne_use (cut_hi hB hw hl) ((eqs_ints _).trans ?_) h
  congr 1
  rw [Int.fmod_eq_emod_of_nonneg _ (by decide)]
  omega
theorem mul61 {n : Nat} {t u : Tok} (h : ∀ t' k, Q (.bytes ((List.replicate ((-(n : Int)).fmod 3).toNat [(61 : UInt8)]).flatten).toArray t') { s with toks := k }) :
    wpAny (model prog w) A (binaryOp .Mult (.bytes #[61] t) (.int ((-(n : Int)).fmod 3) u)) Q E s :=
  bytes_mul_any (b := [61]) (by decide) (by rw [Int.fmod_eq_emod_of_nonneg _ (by decide)]; omega) (by rw [Int.fmod_eq_emod_of_nonneg _ (by decide)]; omega) (by decide) h
end
theorem drawn_in (xs : List Int) : ∀ n ∈ List.map (fun k' : Int => if k'.fmod 3 = 0 then (k'.fdiv 3).fmod 4 else (k'.fdiv 3).fmod 256) xs ++ [200, 2, 7, 255, 1, 233, 3, 9], 0 ≤ n ∧ n < 256 := by
  intro n hn
  rcases List.mem_append.mp hn with q | q
  · obtain ⟨x, _, rfl⟩ := List.mem_map.mp q
    split
    · rw [Int.fmod_eq_emod_of_nonneg _ (by decide)]; omega
    · rw [Int.fmod_eq_emod_of_nonneg _ (by decide)]; omega
  · have key : ∀ n ∈ ([200, 2, 7, 255, 1, 233, 3, 9] : List Int), 0 ≤ n ∧ n < 256 := by decide
    exact key n q
theorem b64_use {w : World} {p : Program} {loose : List Str} {mean : ExcName → Option Value} {mg mb : Str → Option Value} {dp un : Nat} {gd : Option (List Code)} {cn : Str} {cs : Scope} {a : Addr} {ccd : Value} {cl : List (Str × Addr)} {outer : List Env} {A₀ : Around} {base h₀ : Heap} {L : Addr} {m : Str → Option Value} {s : Shared} {Q E : Value → Shared → Prop}
  {b : Array UInt8} {bt : Tok} {ks : List Int} {news : List (Addr × Obj)}
  (B : Below A₀ base outer h₀) (F : Fr h₀ L s.heap m) (X : (Mine.hd.heap_39 w.params).In h₀) (T : Top p loose mean mg mb h₀) (N : News h₀ L s.heap news)
  (hb : KBw.bInts b = ks) (hks : ks.length ≤ 20) (hk : cs.kind = .function) (hd : dp + 3 < recursionLimit)
  (h : ∀ B t h' tk' ss ws, Sixes ks ss → ws = ss.map sgn ++ List.replicate ((3 - ks.length % 3) % 3) 61 → ss.length = (8 * ks.length + 5) / 6 → ws.length ≤ 40 → KBw.bInts B = ws → Fr h₀ L h' m → News h₀ L h' news → Q (.bytes B t) { s with heap := h', toks := tk' }) :
  wpAny (model PySem.Challenge.rw_mr0066_01.row.prog w) (ktrTop dp un gd cn cs L a ccd cl outer) (call (.ref 72) [.bytes b bt]) Q E s := by
  refine b64_c B F X T (fun _ h => nomatch h) hb hks hk hd fun t h' tk' F' K' => ?_
  have hin : ∀ x ∈ ks, 0 ≤ x ∧ x < 256 := fun x hx => KBw.ints_in (hb ▸ hx)
  obtain ⟨ss, hs, e⟩ := b64_sixes ks hin
  refine h _ t h' tk' ss _ hs rfl hs.len (by have := hs.len; simp only [List.length_append, List.length_map, List.length_replicate]; omega) ?_ F' (news_kept N K' fun _ _ => List.not_mem_nil)
  rw [e]
  refine KBa.ints_make ?_
  intro n hn
  rcases List.mem_append.mp hn with q | q
  · obtain ⟨x, _, rfl⟩ := List.mem_map.mp q
    exact sgn_in x
  · rw [(List.mem_replicate.mp q).2]; decide
end Mine
/-! part V1 -/
namespace Mine
/-- values that are lists of the ledger, and what these hold -/
inductive LV (tl : List (Addr × Obj)) : List Value → List (List Item) → Prop
  | nil : LV tl [] []
  | cons {l : Addr} {us : List Value} {nn : Nat} {xs : List Item} {vs : List Value} {xss : List (List Item)} : (l, W.listOf us.toArray nn) ∈ tl → ItemsV us xs → LV tl vs xss → LV tl (.ref l :: vs) (xs :: xss)
theorem LV.mono {tl tl' : List (Addr × Obj)} (h : ∀ q ∈ tl, q ∈ tl') : ∀ {vs : List Value} {xss : List (List Item)}, LV tl vs xss → LV tl' vs xss
  | _, _, .nil => .nil
  | _, _, .cons a b r => .cons (h _ a) b (r.mono h)
theorem LV.snoc {tl : List (Addr × Obj)} {l : Addr} {us : List Value} {nn : Nat} {xs : List Item} (a : (l, W.listOf us.toArray nn) ∈ tl) (b : ItemsV us xs) : ∀ {vs : List Value} {xss : List (List Item)}, LV tl vs xss → LV tl (vs ++ [.ref l]) (xss ++ [xs])
  | _, _, .nil => .cons a b .nil
  | _, _, .cons c d r => .cons c d (r.snoc a b)
def Apart (ns nw : List (Addr × Obj)) : Prop := ∀ p ∈ ns, ∀ q ∈ nw, p.1 ≠ q.1
section
variable {prog : Program} {w : World} {A : Around} {h₀ : Heap} {L : Addr} {m : Str → Option Value} {env : Env} {elt : Expr} {x : Str} {scope : Scope} {cl : List (Str × Addr)} {s : Shared} {P : Nat → Value → Prop} {Fin : List Value → List (Addr × Obj) → Prop}
theorem rest_lists {n : Nat} (f : Nat → List Item) (base : List (Addr × Obj)) (J : List (Addr × Obj) → Prop) (nw₀ tl₀ : List (Addr × Obj)) (hJ : J nw₀) (hA : Apart (base ++ tl₀) nw₀)
    (turn : ∀ i v I oI C oC D m₂ ys nw tl h tk (E' : Value → Shared → Prop), i < n → P i v → J nw → Apart (base ++ tl) nw → LCg.NsObj oC m₂ → m₂ x = some v → Fr h₀ L h m → News h₀ L h ((I, oI) :: (C, oC) :: (D, LCg.lst ys) :: (base ++ (nw ++ tl))) → LCg.Off3 I C D (base ++ (nw ++ tl)) → ((@Ne Nat I C) ∧ (@Ne Nat I D) ∧ (@Ne Nat C D)) →
      wpAny (model prog w) A (eval elt (compEnvC scope cl C env)) (fun y s' => ∃ l us nn nw' h' tk', y = .ref l ∧ s' = { s with heap := h', toks := tk' } ∧ Fr h₀ L h' m ∧ News h₀ L h' ((I, oI) :: (C, oC) :: (D, LCg.lst ys) :: (base ++ (nw' ++ ((l, W.listOf us.toArray nn) :: tl)))) ∧
        LCg.Off3 I C D (base ++ (nw' ++ ((l, W.listOf us.toArray nn) :: tl))) ∧ J nw' ∧ Apart (base ++ ((l, W.listOf us.toArray nn) :: tl)) nw' ∧ ItemsV us (f i)) E' { s with heap := h, toks := tk })
    (fin : ∀ ys nw tl, J nw → Apart (base ++ tl) nw → (∀ q ∈ tl₀, q ∈ tl) → LV tl ys ((List.range n).map f) → Fin ys (base ++ (nw ++ tl))) :
    LCg.CompRest prog w A h₀ L m env elt x scope cl s (fun _ => True) P Fin n 0 [] (base ++ (nw₀ ++ tl₀)) := by
  have key : ∀ (j i : Nat) (ys : List Value) (nw tl : List (Addr × Obj)), i + j = n → J nw → Apart (base ++ tl) nw → (∀ q ∈ tl₀, q ∈ tl) → LV tl ys ((List.range i).map f) →
      LCg.CompRest prog w A h₀ L m env elt x scope cl s (fun _ => True) P Fin j i ys (base ++ (nw ++ tl)) := by
    intro j
    induction j with
    | zero =>
      intro i ys nw tl hi hJ hA hs hy
      have e : i = n := by omega
      subst e
      exact LCg.CompRest.zero (fin ys nw tl hJ hA hs hy)
    | succ j ih =>
      intro i ys nw tl hi hJ hA hs hy
      refine LCg.CompRest.succ ?_
      intro v I oI C oC D m₂ h tk E' hv hC hx F N off ne
      refine wpAny_mono (turn i v I oI C oC D m₂ ys nw tl h tk E' (by omega) hv hJ hA hC hx F N off ne) (fun y s₂ hq => ?_) fun _ _ e => e
      obtain ⟨l, us, nn, nw', h', tk', rfl, rfl, F', N', off', hJ', hA', hI⟩ := hq
      refine ⟨h', tk', _, rfl, F', N', off', trivial, ih (i + 1) _ nw' _ (by omega) hJ' hA' (fun q hq => .tail _ (hs q hq)) ?_⟩
      rw [List.range_succ, List.map_append]
      exact (hy.mono fun q hq => .tail _ hq).snoc (.head _) hI
  exact key n 0 [] nw₀ tl₀ (by omega) hJ hA (fun _ h => h) .nil
end
/-- the state of the file maker's table -/
def TabSt (nw : List (Addr × Obj)) : Prop := nw = [(74, tabObj #[])] ∨ ∃ k1 k2 ok, nw = [(74, tabFull k1 k2), (k1, ok)] ∧ CodeOk ok ∧ @Ne Nat k1 74
theorem told_c {w : World} {p : Program} {loose : List Str} {mean : ExcName → Option Value} {mg mb : Str → Option Value} {cn : Str} {cs : Scope} {a : Addr} {ccd : Value} {cl : List (Str × Addr)} {h₀ : Heap} {L : Addr} {m : Str → Option Value} {s : Shared} {Q E : Value → Shared → Prop}
  {b : Array UInt8} {bt : Tok} {ks : List Int} {nw : List (Addr × Obj)}
  (B : Below callerA h₀ [] h₀) (F : Fr h₀ L s.heap m) (X : (Mine.hd.heap_39 w.params).In h₀) (N : News h₀ L s.heap nw) (hT : TabSt nw) (T : Top p loose mean mg mb h₀) (C : CodeHd h₀ 78 74)
  (hk : cs.kind = .function) (hb : KBw.bInts b = ks) (hks : ks.length ≤ 20)
  (h : ∀ l us nn nw' h' tk', Fr h₀ L h' m → News h₀ L h' ((l, W.listOf us.toArray nn) :: nw') → TabSt nw' → (∀ b o, s.heap.get? b = some o → (∀ q ∈ nw, b ≠ q.1) → b ≠ L → h'.get? b = some o) → s.heap.get? l = none →
    (∀ q ∈ nw', (∃ r ∈ nw, q.1 = r.1) ∨ s.heap.get? q.1 = none) → (∀ q ∈ nw', q.1 ≠ l) → ItemsV us (toldM 0 ks) → Q (.ref l) { s with heap := h', toks := tk' }) :
  wpAny (model PySem.Challenge.rw_mr0066_01.row.prog w) (callerA.deeper (envX cn cs L a ccd cl)) (call (.ref 91) [.bytes b bt]) Q E s := by
  rcases hT with rfl | ⟨k1, k2, ok, rfl, hok, hk1⟩
  · refine told_c1 B F X N T C hk hb hks fun l us nn c1 c2 oc h' tk' F' N' hc K hl hc1 hne hI => ?_
    have hold := (N _ (.head _)).1
    refine h l us nn _ h' tk' F' N' (.inr ⟨c1, c2, oc, rfl, hc, fun e => ?_⟩) (fun b o e hb hL => K.1 b o e (fun q => hb _ (.head _) (List.mem_singleton.mp q)) hL) hl (fun q hq => ?_) (fun q hq => ?_) hI
    · have e' : c1 = 74 := e
      rw [e'] at hc1; rw [hc1] at hold; cases hold
    · rcases List.mem_cons.mp hq with rfl | hq
      · exact .inl ⟨_, .head _, rfl⟩
      · rw [List.mem_singleton.mp hq]; exact .inr hc1
    · rcases List.mem_cons.mp hq with rfl | hq
      · intro e
        have e' : (74 : Addr) = l := e
        rw [← e'] at hl; rw [hl] at hold; cases hold
      · rw [List.mem_singleton.mp hq]; exact hne
  · refine told_c2 B F X N T C hk hok hk1 hb hks fun l us nn h' tk' F' N' K hl hI => ?_
    have h74 := (N _ (.head _)).1
    have hk := (N _ (.tail _ (.head _))).1
    refine h l us nn _ h' tk' F' N' (.inr ⟨k1, k2, ok, rfl, hok, hk1⟩) (fun b o e hb hL => K.1 b o e (fun q => ?_) hL) hl (fun q hq => .inl ⟨q, hq, rfl⟩) (fun q hq => ?_) hI
    · rcases List.mem_cons.mp q with q | q
      · exact hb _ (.head _) q
      · exact hb _ (.tail _ (.head _)) (List.mem_singleton.mp q)
    · rcases List.mem_cons.mp hq with rfl | hq
      · intro e
        have e' : (74 : Addr) = l := e
        rw [← e'] at hl; rw [hl] at h74; cases h74
      · rw [List.mem_singleton.mp hq]
        intro e
        have e' : (k1 : Addr) = l := e
        rw [← e'] at hl; rw [hl] at hk; cases hk
end Mine
/-! part V2 -/
namespace Mine
theorem filled_use {w : World} {p : Program} {loose : List Str} {mean : ExcName → Option Value} {mg mb : Str → Option Value} {dp un : Nat} {gd : Option (List Code)} {cn : Str} {cs : Scope} {a : Addr} {ccd : Value} {cl : List (Str × Addr)} {outer : List Env} {A₀ : Around} {base h₀ : Heap} {L : Addr} {m : Str → Option Value} {s : Shared} {Q E : Value → Shared → Prop}
  {l : Nat} {vs : List Value} {ns : List Int} {nn : Nat} {news : List (Addr × Obj)}
  (B : Below A₀ base outer h₀) (F : Fr h₀ L s.heap m) (X : (Mine.hd.heap_39 w.params).In h₀) (T : Top p loose mean mg mb h₀)
  (N : News h₀ L s.heap news) (hm : (l, W.listOf vs.toArray nn) ∈ news)
  (hi : IntsAre vs ns) (hlen : ns.length ≤ 19) (hlo : ∀ x ∈ ns, 0 ≤ x ∧ x < 64)
  (hk : cs.kind = .function) (hd : dp + 1 < recursionLimit)
  (h : ∀ t h' tk', Fr h₀ L h' m → News h₀ L h' news → Q (.bytes (byteArr (filledL ns)) t) { s with heap := h', toks := tk' }) :
  wpAny (model PySem.Challenge.rw_mr0066_01.row.prog w) (ktrTop dp un gd cn cs L a ccd cl outer) (call (.ref 84) [.ref l]) Q E s := by
  refine filled_c B F X T (fun q hq => N q (by rw [List.mem_singleton.mp hq]; exact hm)) hi hlen hlo hk hd fun t h' tk' F' N' K' => ?_
  refine h t h' tk' F' fun q hq => ⟨?_, (N q hq).2⟩
  by_cases e : q.1 = l
  · have h1 := (N q hq).1
    have h2 := (N _ hm).1
    have h3 := (N' _ (.head _)).1
    rw [e] at h1 ⊢
    rw [h1] at h2
    rw [h2]
    exact h3
  · exact K' _ _ (N q hq).1 (fun z => e (List.mem_singleton.mp z))
theorem due_use {w : World} {p : Program} {loose : List Str} {mean : ExcName → Option Value} {mg mb : Str → Option Value} {dp un : Nat} {gd : Option (List Code)} {cn : Str} {cs : Scope} {a : Addr} {ccd : Value} {cl : List (Str × Addr)} {outer : List Env} {A₀ : Around} {base h₀ : Heap} {L : Addr} {m : Str → Option Value} {s : Shared} {E : Value → Shared → Prop}
  {b : Array UInt8} {bt : Tok} {ks : List Int} {I C D : Addr} {oI oC : Obj} {ys : List Value} {bs nw tl : List (Addr × Obj)}
  (B : Below A₀ base outer h₀) (F : Fr h₀ L s.heap m) (X : (Mine.hd.heap_39 w.params).In h₀) (T : Top p loose mean mg mb h₀)
  (N : News h₀ L s.heap ((I, oI) :: (C, oC) :: (D, LCg.lst ys) :: (bs ++ (nw ++ tl)))) (off : LCg.Off3 I C D (bs ++ (nw ++ tl))) (hA : Apart (bs ++ tl) nw)
  (hb : KBw.bInts b = ks) (hks : ks.length ≤ 20) (hk : cs.kind = .function) (hd : dp + 1 < recursionLimit) (J : List (Addr × Obj) → Prop) (hJ : J nw) :
  wpAny (model PySem.Challenge.rw_mr0066_01.row.prog w) (ktrTop dp un gd cn cs L a ccd cl outer) (call (.ref 96) [.bytes b bt]) (fun y s' => ∃ l us nn nw' h' tk', y = .ref l ∧ s' = { s with heap := h', toks := tk' } ∧ Fr h₀ L h' m ∧
    News h₀ L h' ((I, oI) :: (C, oC) :: (D, LCg.lst ys) :: (bs ++ (nw' ++ ((l, W.listOf us.toArray nn) :: tl)))) ∧ LCg.Off3 I C D (bs ++ (nw' ++ ((l, W.listOf us.toArray nn) :: tl))) ∧ J nw' ∧ Apart (bs ++ ((l, W.listOf us.toArray nn) :: tl)) nw' ∧ ItemsV us (toldM 0 ks)) E s := by
  refine due_c B F X T (fun _ h => nomatch h) hb hks hk hd fun l us nn h' tk' F' N' K' hl hI => ?_
  have fresh : ∀ q ∈ (I, oI) :: (C, oC) :: (D, LCg.lst ys) :: (bs ++ (nw ++ tl)), q.1 ≠ l := fun q hq e => by
    have := (N q hq).1; rw [e, hl] at this; cases this
  have hmem : ∀ q, q ∈ bs ++ (nw ++ ((l, W.listOf us.toArray nn) :: tl)) → q = (l, W.listOf us.toArray nn) ∨ q ∈ bs ++ (nw ++ tl) := fun q hq => by
    simp only [List.mem_append, List.mem_cons] at hq ⊢
    rcases hq with q | q | q | q
    · exact .inr (.inl q)
    · exact .inr (.inr (.inl q))
    · exact .inl q
    · exact .inr (.inr (.inr q))
  refine ⟨l, us, nn, nw, h', tk', rfl, rfl, F', fun q hq => ?_, ?_, hJ, fun q hq r hr => ?_, hI⟩
  · have old : ∀ q ∈ (I, oI) :: (C, oC) :: (D, LCg.lst ys) :: (bs ++ (nw ++ tl)), h'.get? q.1 = some q.2 ∧ q.1 ≠ L ∧ h₀.get? q.1 = none := fun q hq => ⟨K' _ _ (N q hq).1 List.not_mem_nil, (N q hq).2⟩
    rcases List.mem_cons.mp hq with rfl | hq
    · exact old _ (.head _)
    · rcases List.mem_cons.mp hq with rfl | hq
      · exact old _ (.tail _ (.head _))
      · rcases List.mem_cons.mp hq with rfl | hq
        · exact old _ (.tail _ (.tail _ (.head _)))
        · rcases hmem q hq with rfl | hq
          · exact N' _ (.head _)
          · exact old q (.tail _ (.tail _ (.tail _ hq)))
  · refine LCg.Off3.of fun q hq => ?_
    rcases hmem q hq with rfl | hq
    · exact ⟨Ne.symm (fresh _ (.head _)), Ne.symm (fresh _ (.tail _ (.head _))), Ne.symm (fresh _ (.tail _ (.tail _ (.head _))))⟩
    · exact off.mem q hq
  · rcases List.mem_append.mp hq with hq | hq
    · exact hA q (List.mem_append_left _ hq) r hr
    · rcases List.mem_cons.mp hq with rfl | hq
      · exact Ne.symm (fresh r (.tail _ (.tail _ (.tail _ (List.mem_append_right _ (List.mem_append_left _ hr))))))
      · exact hA q (List.mem_append_right _ hq) r hr
theorem told_use {w : World} {p : Program} {loose : List Str} {mean : ExcName → Option Value} {mg mb : Str → Option Value} {cn : Str} {cs : Scope} {a : Addr} {ccd : Value} {cl : List (Str × Addr)} {h₀ : Heap} {L : Addr} {m : Str → Option Value} {s : Shared} {E : Value → Shared → Prop}
  {b : Array UInt8} {bt : Tok} {ks : List Int} {I C D : Addr} {oI oC : Obj} {ys : List Value} {bs nw tl : List (Addr × Obj)}
  (B : Below callerA h₀ [] h₀) (F : Fr h₀ L s.heap m) (X : (Mine.hd.heap_39 w.params).In h₀) (T : Top p loose mean mg mb h₀) (CH : CodeHd h₀ 78 74)
  (N : News h₀ L s.heap ((I, oI) :: (C, oC) :: (D, LCg.lst ys) :: (bs ++ (nw ++ tl)))) (off : LCg.Off3 I C D (bs ++ (nw ++ tl))) (hA : Apart (bs ++ tl) nw) (hT : TabSt nw)
  (hb : KBw.bInts b = ks) (hks : ks.length ≤ 20) (hk : cs.kind = .function) :
  wpAny (model PySem.Challenge.rw_mr0066_01.row.prog w) (callerA.deeper (envX cn cs L a ccd cl)) (call (.ref 91) [.bytes b bt]) (fun y s' => ∃ l us nn nw' h' tk', y = .ref l ∧ s' = { s with heap := h', toks := tk' } ∧ Fr h₀ L h' m ∧
    News h₀ L h' ((I, oI) :: (C, oC) :: (D, LCg.lst ys) :: (bs ++ (nw' ++ ((l, W.listOf us.toArray nn) :: tl)))) ∧ LCg.Off3 I C D (bs ++ (nw' ++ ((l, W.listOf us.toArray nn) :: tl))) ∧ TabSt nw' ∧ Apart (bs ++ ((l, W.listOf us.toArray nn) :: tl)) nw' ∧ ItemsV us (toldM 0 ks)) E s := by
  have inw : ∀ q ∈ nw, q ∈ (I, oI) :: (C, oC) :: (D, LCg.lst ys) :: (bs ++ (nw ++ tl)) := fun q hq => .tail _ (.tail _ (.tail _ (List.mem_append_right _ (List.mem_append_left _ hq))))
  refine told_c B F X (fun q hq => N q (inw q hq)) hT T CH hk hb hks fun l us nn nw' h' tk' F' N' hT' K' hl hn' hne hI => ?_
  have fresh : ∀ q ∈ (I, oI) :: (C, oC) :: (D, LCg.lst ys) :: (bs ++ (nw ++ tl)), q.1 ≠ l := fun q hq e => by
    have := (N q hq).1; rw [e, hl] at this; cases this
  -- what is not of the table's is apart from it, before and behind
  have apart : ∀ q ∈ (I, oI) :: (C, oC) :: (D, LCg.lst ys) :: (bs ++ tl), (∀ r ∈ nw, q.1 ≠ r.1) ∧ q ∈ (I, oI) :: (C, oC) :: (D, LCg.lst ys) :: (bs ++ (nw ++ tl)) := fun q hq => by
    have offm := off.mem
    rcases List.mem_cons.mp hq with rfl | hq
    · exact ⟨fun r hr => Ne.symm (offm r (List.mem_append_right _ (List.mem_append_left _ hr))).1, .head _⟩
    · rcases List.mem_cons.mp hq with rfl | hq
      · exact ⟨fun r hr => Ne.symm (offm r (List.mem_append_right _ (List.mem_append_left _ hr))).2.1, .tail _ (.head _)⟩
      · rcases List.mem_cons.mp hq with rfl | hq
        · exact ⟨fun r hr => Ne.symm (offm r (List.mem_append_right _ (List.mem_append_left _ hr))).2.2, .tail _ (.tail _ (.head _))⟩
        · refine ⟨fun r hr => hA q hq r hr, .tail _ (.tail _ (.tail _ ?_))⟩
          rcases List.mem_append.mp hq with hq | hq
          · exact List.mem_append_left _ hq
          · exact List.mem_append_right _ (List.mem_append_right _ hq)
  have apart' : ∀ q ∈ (I, oI) :: (C, oC) :: (D, LCg.lst ys) :: (bs ++ tl), ∀ r ∈ nw', q.1 ≠ r.1 := fun q hq r hr e => by
    obtain ⟨h1, h2⟩ := apart q hq
    rcases hn' r hr with ⟨r', hr', e'⟩ | hnone
    · exact h1 r' hr' (e.trans e')
    · have := (N q h2).1; rw [e, hnone] at this; cases this
  have old : ∀ q ∈ (I, oI) :: (C, oC) :: (D, LCg.lst ys) :: (bs ++ tl), h'.get? q.1 = some q.2 ∧ q.1 ≠ L ∧ h₀.get? q.1 = none := fun q hq =>
    let ⟨h1, h2⟩ := apart q hq; ⟨K' _ _ (N q h2).1 h1 (N q h2).2.1, (N q h2).2⟩
  have hmem : ∀ q, q ∈ bs ++ (nw' ++ ((l, W.listOf us.toArray nn) :: tl)) → q = (l, W.listOf us.toArray nn) ∨ q ∈ nw' ∨ q ∈ bs ++ tl := fun q hq => by
    simp only [List.mem_append, List.mem_cons] at hq ⊢
    rcases hq with q | q | q | q
    · exact .inr (.inr (.inl q))
    · exact .inr (.inl q)
    · exact .inl q
    · exact .inr (.inr (.inr q))
  refine ⟨l, us, nn, nw', h', tk', rfl, rfl, F', fun q hq => ?_, ?_, hT', fun q hq r hr => ?_, hI⟩
  · rcases List.mem_cons.mp hq with rfl | hq
    · exact old _ (.head _)
    · rcases List.mem_cons.mp hq with rfl | hq
      · exact old _ (.tail _ (.head _))
      · rcases List.mem_cons.mp hq with rfl | hq
        · exact old _ (.tail _ (.tail _ (.head _)))
        · rcases hmem q hq with rfl | hq | hq
          · exact N' _ (.head _)
          · exact N' _ (.tail _ hq)
          · exact old q (.tail _ (.tail _ (.tail _ hq)))
  · refine LCg.Off3.of fun q hq => ?_
    rcases hmem q hq with rfl | hq | hq
    · exact ⟨Ne.symm (fresh _ (.head _)), Ne.symm (fresh _ (.tail _ (.head _))), Ne.symm (fresh _ (.tail _ (.tail _ (.head _))))⟩
    · exact ⟨Ne.symm (apart' _ (.head _) q hq), Ne.symm (apart' _ (.tail _ (.head _)) q hq), Ne.symm (apart' _ (.tail _ (.tail _ (.head _))) q hq)⟩
    · refine off.mem q ?_
      rcases List.mem_append.mp hq with hq | hq
      · exact List.mem_append_left _ hq
      · exact List.mem_append_right _ (List.mem_append_right _ hq)
  · rcases List.mem_append.mp hq with hq | hq
    · exact apart' q (.tail _ (.tail _ (.tail _ (List.mem_append_left _ hq)))) r hr
    · rcases List.mem_cons.mp hq with rfl | hq
      · exact Ne.symm (hne r hr)
      · exact apart' q (.tail _ (.tail _ (.tail _ (List.mem_append_right _ hq)))) r hr
end Mine
/-! part V3 -/
namespace Mine
/-- the law's last two statements and its scope -/
def lawOf (x : Stmt) : Stmt × Stmt × Scope := match x with
  | PySem.Stmt.FunctionDef _ _ body _ _ _ sc _ _ _ => match body[6]?, body[7]? with
    | some y, some z => (y, z, sc)
    | _, _ => (default, default, default)
  | _ => (default, default, default)
def lawS : Stmt × Stmt × Scope := match PySem.Challenge.pw_mr0066_01.main.body[17]? with
  | some x => lawOf x
  | none => (default, default, default)
local macro_rules | `(tactic| walk_at "CompSrc") => `(tactic| (refine Stop.out ?_))
local macro_rules | `(tactic| walk_at "subscriptTail Name Slice ref ref") => `(tactic| (k_here; (with_reducible show wpAny _ _ (subscriptTail _ (PySem.Expr.Slice none (some _) none _) (Value.ref _) (Value.ref _)) _ _ _); k_dflt (refine' kmk_slice_ints ?F ?N ?l ?p ?q ?i (kmk_upto ?m1 ?m2) rfl ?_ ?s ?t ?z; (case F => k_asm); (case N => k_asm); (case l => exact News.isList (by k_asm) (by k_mem)); (case p => constructor); (case q => constructor); (case i => assumption); (case m1 => assumption); (case m2 => omega); (case s => with_unfolding_all rfl); (case t => (intro _; with_unfolding_all rfl)); (case z => exact kmk_sz (by assumption) (by rw [sizeLine_eq]; omega))); intro D' ws' h' F' N' l1 hI' hC' hL'))
local macro_rules | `(tactic| walk_at "call ref") => `(tactic| (k_here; (try dsimp only [List.nil_append, List.cons_append]); (with_reducible show wpAny _ _ (call (Value.ref 84) [Value.ref _]) _ _ _); k_dflt (refine' filled_use ?B ?F ?X ?T ?N ?hm ?hi ?hlen ?hlo ?hk ?hd (fun t9 h9 tk9 F9 N9 => ?_); (case B => k_asm); (case F => k_asm); (case X => k_asm); (case T => k_asm); (case N => k_asm); (case hm => k_mem); (case hi => assumption); (case hlen => (simp only [List.length_take]; omega)); (case hlo => exact fun x hx => Sixes.rng (by assumption) x (List.mem_of_mem_take hx)); (case hk => exact rfl); (case hd => exact Nat.le_of_ble_eq_true rfl)); (try dsimp only)))
local macro_rules | `(tactic| walk_at "call ref") => `(tactic| (k_here; (try dsimp only [List.nil_append, List.cons_append]); (with_reducible show wpAny _ _ (call (Value.ref 91) [Value.bytes _ _]) _ _ _); refine Stop.out ?_))
theorem told_asg {w : World} {p : Program} {loose : List Str} {mean : ExcName → Option Value} {mg mb : Str → Option Value} {a : Addr} {ccd : Value} {h₀ : Heap} {L : Nat} {m₀ : Str → Option Value} {s : Shared} {Q : Flow → Shared → Prop} {E : Value → Shared → Prop}
  {asg rt : Stmt} {sc : Scope} {S : Nat} {tm bt : Tok} {oS oO : Obj} {ysS : List Value} {ks ss : List Int} {b : Array UInt8}
  (hL : lawS = (asg, rt, sc))
  (B : Below callerA h₀ [] h₀) (F : Fr h₀ L s.heap (fun y => if y = Str.ofString "many" then some (.int ((8 * (ks.length : Int) + 5).fdiv 6) tm) else m₀ y)) (X : (Mine.hd.heap_39 w.params).In h₀) (T : Top p loose mean mg mb h₀) (C : CodeHd h₀ 78 74)
  (N : News h₀ L s.heap [(S, LCg.lst ysS), (L + 1 + 1 + 1, oS), (L + 1, oO), (74, tabObj #[])])
  (hS74 : S ≠ 74) (hL74 : 74 < L) (hS : IntsAre ysS ss) (hSx : Sixes ks ss) (hks : ks.length ≤ 14) (hoS : oS.data = .cell (some (.ref S))) (hoO : oO.data = .cell (some (.bytes b bt))) (hb : KBw.bInts b = ks)
  (h : ∀ D ys nw tl h' tk', Fr h₀ L h' (fun z => if z = Str.ofString "told" then some (.ref D) else if z = Str.ofString "many" then some (.int ((8 * (ks.length : Int) + 5).fdiv 6) tm) else m₀ z) →
    News h₀ L h' ((D, LCg.lst ys) :: ([(S, LCg.lst ysS), (L + 1 + 1 + 1, oS), (L + 1, oO)] ++ (nw ++ tl))) → TabSt nw → Apart ([(S, LCg.lst ysS), (L + 1 + 1 + 1, oS), (L + 1, oO)] ++ tl) nw → LCg.Off1 D ([(S, LCg.lst ysS), (L + 1 + 1 + 1, oS), (L + 1, oO)] ++ (nw ++ tl)) →
    LV tl ys ((List.range ((8 * ks.length + 5) / 6 + 1)).map fun i => toldM 0 (ks.take (i * 6 / 8))) → Q .next { s with heap := h', toks := tk' })
  : wpAny (model PySem.Challenge.rw_mr0066_01.row.prog w) (callerA.deeper (envOfC (Str.ofString "law") sc L a ccd)) (exec asg (envOfC (Str.ofString "law") sc L a ccd)) Q E s := by
  revert X; k_fill; intro X
  injection hL with h1 h2
  injection h2 with h2 h3
  subst h1 h2 h3
  w_on
  refine LCg.Assign_ListComp_U (F₀ := F) (by rfl) (by with_unfolding_all rfl) (by with_unfolding_all rfl) (by decide) (by rfl) (by decide) (by rfl) (by rfl) (by rfl) ?_
  k_steps
  unfold Stop
  refine LCg.CompSrc.range (n := (8 * ks.length + 5) / 6 + 1) rfl (by k_asm) (by k_asm) (by assumption) (by rw [many_nat]; exact small_one (by omega) (by omega) (by omega) (by omega)) ((rangeSize_nat _ _).trans (by rw [many_nat]; omega)) (by rw [sizeLine_eq]; omega) ?_
  intro g'
  refine rest_lists (fun i => toldM 0 (ks.take (i * 6 / 8))) [(S, LCg.lst ysS), (L + 1 + 1 + 1, oS), (L + 1, oO)] TabSt [(74, tabObj #[])] [] (.inl rfl) ?apart ?turn ?fin
  case apart =>
    intro q hq r hr
    rw [List.mem_singleton.mp hr]
    rcases List.mem_cons.mp hq with rfl | hq
    · exact hS74
    · rcases List.mem_cons.mp hq with rfl | hq
      · intro e
        have e' : L + 1 + 1 + 1 = 74 := e
        omega
      · rw [List.mem_singleton.mp hq]
        intro e
        have e' : L + 1 = 74 := e
        omega
  case turn =>
    rintro i _ I oI C' oC D m₂ ys nw tl h9 tk E' hi ⟨t, rfl⟩ hJ hA hC hx F' N' off ne
    simp only [List.cons_append, List.nil_append] at N'
    have hsl := hSx.len
    k_steps
    unfold Stop
    have hf := hSx.fill i (by omega)
    rename News _ _ _ _ => N9
    rename Fr _ _ _ _ => F9
    rw [show (0 + (i : Int)).toNat = i by omega, hf]
    exact told_use B F9 X T C (fun q hq => N9 q (.tail _ hq)) off hA hJ (KBa.ints_make (fun x hx => KBw.ints_in (hb ▸ List.mem_of_mem_take hx))) (by simp only [List.length_take]; omega) rfl
  case fin =>
    intro ys nw tl hJ hA _ hV D h9 tk9 F9 N9 o9
    exact h D ys nw tl h9 tk9 F9 N9 hJ hA o9 hV
end Mine
/-! part Q1 -/
namespace Mine
open PySem.SeqAt
section
variable {A : Around} {s : Shared}
theorem eqAt_bytes (a : Array UInt8) (t u : Tok) : EqAt A s (.bytes a t) (.bytes a u) true := fun prog w E Q hq => by
  unfold eqBool
  refine wpAny_holding ?_
  refine wpAny_ite_split (fun _ => wpAny_bind (wpAny_rule (wpAny_pure hq))) (fun _ => ?_)
  refine wpAny_bind ?_
  have h : wpAny (model prog w) A (compareOp .Eq (.bytes a t) (.bytes a u)) (fun r s' => wpAny (model prog w) A (truthOfDropped r) Q E s') E s := by
    refine eq_bytes ?_
    rw [show (a.toList == a.toList) = true by simp]
    exact wpAny_truthy_bool hq
  exact h
theorem eqAt_int (i : Int) (t u : Tok) : EqAt A s (.int i t) (.int i u) true := by
  have := EqAt.int_int (A := A) (s := s) i t i u
  rwa [beq_self_eq_true] at this
theorem eqAt_str (x : Str) (t u : Tok) : EqAt A s (.str x t) (.str x u) true := by
  have := EqAt.str_str (A := A) (s := s) x t x u
  rwa [beq_self_eq_true] at this
theorem eqAt_item {v v' : Value} {x : Item} (h : ItemV v x) (h' : ItemV v' x) : EqAt A s v v' true := by
  cases h with
  | num => cases h' with | num => exact eqAt_int _ _ _
  | oct hb => cases h' with | oct hb' => rw [bInts_inj (hb.trans hb'.symm)]; exact eqAt_bytes _ _ _
  | txt => cases h' with | txt => exact eqAt_str _ _ _
theorem items_at {us : List Value} {xs : List Item} (h : ItemsV us xs) : ∀ (j : Nat) (h1 : j < us.length), ∃ x, xs[j]? = some x ∧ ItemV us[j] x := by
  induction h with
  | nil => intro j h1; exact absurd h1 (Nat.not_lt_zero _)
  | cons a r ih =>
    intro j h1
    cases j with
    | zero => exact ⟨_, rfl, a⟩
    | succ j => exact ih j (by simpa using h1)
theorem all_true (n : Nat) : ((List.range n).all fun _ => true) = true := by simp
theorem eq_refs {l l' : Addr} {us us' : List Value} {xs : List Item} (hl : s.heap.IsList l us.toArray) (hl' : s.heap.IsList l' us'.toArray) (h : ItemsV us xs) (h' : ItemsV us' xs) (hu : A.units < cLine) : EqAt A s (.ref l) (.ref l') true := by
  by_cases e : l = l'
  · rw [e]; exact EqAt.same _
  · refine EqAt.of_refs e ?_
    have hsz : us.toArray.size = us'.toArray.size := by rw [List.size_toArray, List.size_toArray, h.length, h'.length]
    have r := RcAt.lists (A := A) (e := fun _ => true) hl hl' hsz hu fun j h1 h2 => by
      obtain ⟨x, hx, a⟩ := items_at h j (by simpa using h1)
      obtain ⟨x', hx', a'⟩ := items_at h' j (by simpa using h2)
      rw [hx] at hx'
      cases hx'
      simpa using eqAt_item a a'
    rwa [all_true] at r
theorem lv_at {tl : List (Addr × Obj)} {vs : List Value} {xss : List (List Item)} (h : LV tl vs xss) : ∀ (j : Nat) (h1 : j < vs.length), ∃ xs l us nn, xss[j]? = some xs ∧ vs[j] = .ref l ∧ (l, W.listOf us.toArray nn) ∈ tl ∧ ItemsV us xs := by
  induction h with
  | nil => intro j h1; exact absurd h1 (Nat.not_lt_zero _)
  | cons a b r ih =>
    intro j h1
    cases j with
    | zero => exact ⟨_, _, _, _, rfl, rfl, a, b⟩
    | succ j => exact ih j (by simpa using h1)
theorem lv_len {tl : List (Addr × Obj)} {vs : List Value} {xss : List (List Item)} (h : LV tl vs xss) : vs.length = xss.length := by
  induction h with
  | nil => rfl
  | cons _ _ _ ih => rw [List.length_cons, List.length_cons, ih]
theorem eq_tops {prog : Program} {w : World} {E : Value → Shared → Prop} {Q : Value → Shared → Prop} {h₀ : Heap} {L D D' : Addr} {news tl tl' : List (Addr × Obj)} {ys ys' : List Value} {xss : List (List Item)} (N : News h₀ L s.heap news)
    (hD : (D, LCg.lst ys) ∈ news) (hD' : (D', LCg.lst ys') ∈ news) (ht : ∀ q ∈ tl, q ∈ news) (ht' : ∀ q ∈ tl', q ∈ news) (h : LV tl ys xss) (h' : LV tl' ys' xss) (hu : A.units < cLine) (hu' : A.in1.units < cLine) (hq : Q (.bool true) s) :
    wpAny (model prog w) A (compareOp .Eq (.ref D) (.ref D')) Q E s := by
  have hsz : ys.toArray.size = ys'.toArray.size := by rw [List.size_toArray, List.size_toArray, lv_len h, lv_len h']
  refine eq_listAt (e := fun _ => true) (News.isList N hD) (News.isList N hD') hsz hu (fun j h1 h2 => ?_) (by rw [all_true]; exact hq)
  obtain ⟨xs, l, us, nn, hx, hv, hm, a⟩ := lv_at h j (by simpa using h1)
  obtain ⟨xs', l', us', nn', hx', hv', hm', a'⟩ := lv_at h' j (by simpa using h2)
  rw [hx] at hx'
  cases hx'
  have e := eq_refs (A := A.in1) (News.isList N (ht _ hm)) (News.isList N (ht' _ hm')) a a' hu'
  simpa [hv, hv'] using e
end
end Mine
/-! part V4 -/
namespace Mine
local macro_rules | `(tactic| walk_at "CompSrc") => `(tactic| (refine Stop.out ?_))
local macro_rules | `(tactic| walk_at "eval ListComp") => `(tactic| (k_here; k_dflt (refine LCg.ListComp_U (F₀ := by k_asm) (by with_unfolding_all rfl) (by decide) (by rfl) (by decide) (by rfl) ?_)))
local macro_rules | `(tactic| walk_at "call ref") => `(tactic| (k_here; (try dsimp only [List.nil_append, List.cons_append]); (with_reducible show wpAny _ _ (call (Value.ref 96) [Value.bytes _ _]) _ _ _); refine Stop.out ?_))
local macro_rules | `(tactic| walk_at "compareOp Eq ref ref") => `(tactic| (refine Stop.out ?_))
local macro_rules | `(tactic| walk_at "compareOp Eq") => `(tactic| (refine Stop.out ?_))
theorem off1_mem {D : Addr} : ∀ {l : List (Addr × Obj)}, LCg.Off1 D l → ∀ p ∈ l, p.1 ≠ D
  | [], _, _, h => nomatch h
  | _ :: _, x, p, h => by
    rcases List.mem_cons.mp h with rfl | h
    · exact x.1
    · exact off1_mem x.2 p h
theorem cut_oct {b : Array UInt8} {ks : List Int} (hb : KBw.bInts b = ks) (i : Nat) : KBw.bInts (KBy.picked b none (some (((0 + (i : Int)) * 6).fdiv 8))) = ks.take (i * 6 / 8) := by
  have e : ((0 + (i : Int)) * 6).fdiv 8 = ((i * 6 / 8 : Nat) : Int) := by
    rw [Int.fdiv_eq_ediv_of_nonneg _ (by decide)]; omega
  rw [KBc.ints_picked hb, e]
  show List.take (clipAt ks.length _ - 0) (List.drop 0 ks) = _
  rw [clipAt_nat, List.drop_zero, Nat.sub_zero]
  by_cases h : i * 6 / 8 ≤ ks.length
  · rw [Nat.min_eq_left h]
  · rw [Nat.min_eq_right (by omega), List.take_of_length_le (Nat.le_refl _), List.take_of_length_le (by omega)]
theorem law_ret {w : World} {p : Program} {loose : List Str} {mean : ExcName → Option Value} {mg mb : Str → Option Value} {a : Addr} {ccd : Value} {h₀ : Heap} {L : Nat} {m₀ : Str → Option Value} {s : Shared} {Q : Flow → Shared → Prop} {E : Value → Shared → Prop}
  {asg rt : Stmt} {sc : Scope} {S D : Nat} {tm bt : Tok} {oS oO : Obj} {ysS ys : List Value} {ks : List Int} {b : Array UInt8} {nw tl : List (Addr × Obj)}
  (hL : lawS = (asg, rt, sc))
  (B : Below callerA h₀ [] h₀) (F : Fr h₀ L s.heap (fun z => if z = Str.ofString "told" then some (.ref D) else if z = Str.ofString "many" then some (.int ((8 * (ks.length : Int) + 5).fdiv 6) tm) else m₀ z)) (X : (Mine.hd.heap_39 w.params).In h₀) (T : Top p loose mean mg mb h₀) (C : CodeHd h₀ 78 74)
  (N : News h₀ L s.heap ((D, LCg.lst ys) :: ([(S, LCg.lst ysS), (L + 1 + 1 + 1, oS), (L + 1, oO)] ++ (nw ++ tl)))) (hT : TabSt nw) (hA : Apart ([(S, LCg.lst ysS), (L + 1 + 1 + 1, oS), (L + 1, oO)] ++ tl) nw) (hO : LCg.Off1 D ([(S, LCg.lst ysS), (L + 1 + 1 + 1, oS), (L + 1, oO)] ++ (nw ++ tl)))
  (hV : LV tl ys ((List.range ((8 * ks.length + 5) / 6 + 1)).map fun i => toldM 0 (ks.take (i * 6 / 8))))
  (hks : ks.length ≤ 14) (hoO : oO.data = .cell (some (.bytes b bt))) (hb : KBw.bInts b = ks)
  (h : ∀ nw' news' h' tk' m', Fr h₀ L h' m' → News h₀ L h' news' → TabSt nw' → (∀ q ∈ nw', q ∈ news') → Q (.ret (.bool true)) { s with heap := h', toks := tk' })
  : wpAny (model PySem.Challenge.rw_mr0066_01.row.prog w) (callerA.deeper (envOfC (Str.ofString "law") sc L a ccd)) (exec rt (envOfC (Str.ofString "law") sc L a ccd)) Q E s := by
  revert X; k_fill; intro X
  injection hL with h1 h2
  injection h2 with h2 h3
  subst h1 h2 h3
  simp only [List.cons_append, List.nil_append] at N
  w_on
  k_steps
  unfold Stop
  refine LCg.CompSrc.range (n := (8 * ks.length + 5) / 6 + 1) rfl (by k_asm) (by k_asm) (by assumption) (by rw [many_nat]; exact small_one (by omega) (by omega) (by omega) (by omega)) ((rangeSize_nat _ _).trans (by rw [many_nat]; omega)) (by rw [sizeLine_eq]; omega) ?_
  intro g'
  refine rest_lists (fun i => toldM 0 (ks.take (i * 6 / 8))) [(D, LCg.lst ys), (S, LCg.lst ysS), (L + 1 + 1 + 1, oS), (L + 1, oO)] TabSt nw tl hT ?apart ?turn ?fin
  case apart =>
    intro q hq r hr
    rcases List.mem_cons.mp hq with rfl | hq
    · exact Ne.symm (off1_mem hO r (List.mem_append_right _ (List.mem_append_left _ hr)))
    · exact hA q hq r hr
  case turn =>
    rintro i _ I oI C' oC D' m₂ ys' nw' tl' h9 tk E' hi ⟨t, rfl⟩ hJ hA' hC hx F' N' off ne
    simp only [List.cons_append, List.nil_append] at N'
    k_steps
    unfold Stop
    rename News _ _ _ _ => N9
    rename Fr _ _ _ _ => F9
    exact due_use B F9 X T N9 off hA' (cut_oct hb i) (by simp only [List.length_take]; omega) rfl (Nat.le_of_ble_eq_true rfl) TabSt hJ
  case fin =>
    intro ys' nw' tl' hJ hA' hsub hV'
    k_steps
    unfold Stop
    rename News _ _ _ _ => N9
    rename Fr _ _ _ _ => F9
    refine eq_tops N9 (.tail _ (.head _)) (.head _) (fun q hq => ?_) (fun q hq => ?_) hV hV' (Nat.le_of_ble_eq_true rfl) (Nat.le_of_ble_eq_true rfl) ?_
    · exact .tail _ (.tail _ (.tail _ (.tail _ (.tail _ (List.mem_append_right _ (hsub q hq))))))
    · exact .tail _ (.tail _ (.tail _ (.tail _ (.tail _ (List.mem_append_right _ hq)))))
    · exact h nw' _ _ _ _ F9 N9 hJ (fun q hq => .tail _ (.tail _ (.tail _ (.tail _ (.tail _ (List.mem_append_left _ hq))))))
end Mine
/-! part K1 -/
namespace Mine
local macro_rules | `(tactic| walk_at "call type:bytes") => `(tactic| (k_here; (with_reducible show wpAny _ _ (call (Value.type "bytes") [Value.ref _]) _ _ _); k_dflt (refine' bytes_any ?F ?N ?hh ?hl ?hi ?hr ?h8 ?h14 (fun b9 t9 h9 k9 ks9 hb9 hl8 hl14 F9 N9 => ?_); (case F => k_asm); (case N => k_asm); (case hh => exact rfl); (case hl => first | exact News.isList (by k_asm) (by k_mem) | is_list); (case hi => assumption); (case hr => exact drawn_in _); (case h8 => (simp only [List.length_append, List.length_cons, List.length_nil]; omega)); (case h14 => (simp only [List.length_append, List.length_map, List.length_take, List.length_cons, List.length_nil]; omega))); (try dsimp only)))
local macro_rules | `(tactic| walk_at "call ref") => `(tactic| (k_here; (try dsimp only [List.nil_append, List.cons_append]); (with_reducible show wpAny _ _ (call (Value.ref 72) [Value.bytes _ _]) _ _ _); k_dflt (refine' b64_use ?B ?F ?X ?T ?N ?hb ?hks ?hk ?hd (fun B9 t9 h9 tk9 ss9 ws9 hS9 hw9 hsl9 hwl9 hB9 F9 N9 => ?_); (case B => k_asm); (case F => k_asm); (case X => k_asm); (case T => k_asm); (case N => k_asm); (case hb => assumption); (case hks => omega); (case hk => exact rfl); (case hd => exact Nat.le_of_ble_eq_true rfl)); (try dsimp only)))
local macro_rules | `(tactic| walk_at "call type:type") => `(tactic| (k_here; (with_reducible show wpAny _ _ (call (Value.type "type") [Value.bytes _ _]) _ _ _); refine call_type_of (typeIs_bytes _ _ _) (by decide) ?_))
local macro_rules | `(tactic| walk_at "exec Assign cons ListComp") => `(tactic| (k_here; (with_reducible show wpAny _ _ (exec (Stmt.Assign [Expr.Name ("told" : Str) _] _ _) _) _ _ _); refine Stop.out ?_))
local macro_rules | `(tactic| walk_at "compareOp NotEq bytes bytes") => `(tactic| (k_here; refine ne_cut (by assumption) (by assumption) (by assumption) ?_))
local macro_rules | `(tactic| walk_at "binaryOp Mult bytes int") => `(tactic| (k_here; refine mul61 ?_; intro _ _))
local macro_rules | `(tactic| walk_at "eval ListComp") => `(tactic| (k_here; (with_reducible show wpAny _ _ (eval (Expr.ListComp _ [⟨_, Expr.Subscript _ _ _, _, _⟩] _ _) _) _ _ _); k_dflt (refine ListComp_B (_F₀ := by k_asm) (by with_unfolding_all rfl) (by decide) (by rfl) (by decide) (by rfl) ?_)))
local macro_rules | `(tactic| walk_at "SrcB") => `(tactic| (k_dflt (refine' SrcB.ints idx64 ?hh ?F ?N ?hb ?hsz (fun k9 t9 I9 oI9 C9 oC9 D9 m9 ys9 h9 tk9 E9 hk9 hk6 hk7 hC9 hx9 F9 N9 off9 ne9 _ => ?_) (fun g9 ys9 hc9 => ?_); (case hh => exact rfl); (case F => k_asm); (case N => k_asm); (case hb => exact cut_lo (by assumption) (by assumption) (by assumption)); (case hsz => (simp only [List.length_map]; omega))); (try dsimp only)))
local macro_rules | `(tactic| walk_at "CompEnd") => `(tactic| (exact LCg.CompEnd.intro (by k_asm) (by k_asm) _ (fun _ hp => hp) (by assumption) True.intro ⟨rfl, _, rfl⟩))
local macro_rules | `(tactic| walk_at "call builtin:bytes.find") => `(tactic| (k_here; (try dsimp only [List.nil_append, List.cons_append]); (with_reducible show wpAny _ _ (call (Value.builtin "bytes.find") [Value.bytes _ _, Value.int _ _]) _ _ _); (refine find_use (by assumption) (Sixes.rng (by assumption)) ?_)))
local macro_rules | `(tactic| walk_at "getMethod bytes") => `(tactic| (k_here; (refine find_method ?_)))
theorem news4 {h₀ h : Heap} {L : Addr} {news : List (Addr × Obj)} {e1 e2 e3 e4 : Addr × Obj} (N : News h₀ L h news) (h1 : e1 ∈ news) (h2 : e2 ∈ news) (h3 : e3 ∈ news) (h4 : e4 ∈ news) : News h₀ L h [e1, e2, e3, e4] := fun x hx => by
  simp only [List.mem_cons, List.not_mem_nil, or_false] at hx
  rcases hx with rfl | rfl | rfl | rfl <;> exact N _ (by assumption)
theorem fr_many {h₀ h : Heap} {L : Addr} {m : Str → Option Value} {v : Value} (F : Fr h₀ L h m) (hm : m (Str.ofString "many") = some v) : Fr h₀ L h (fun y => if y = Str.ofString "many" then some v else m y) := by
  have e : (fun y => if y = Str.ofString "many" then some v else m y) = m := funext fun y => by
    by_cases q : y = Str.ofString "many"
    · rw [if_pos q, q, hm]
    · rw [if_neg q]
  rw [e]
  exact F
local macro_rules | `(tactic| walk_at "exec Return some") => `(tactic| (k_here; (with_reducible show wpAny _ _ (exec (Stmt.Return (some (Expr.Compare _ _ _ _)) _) _) _ _ _); refine Stop.out ?_))
theorem law_try : PySem.Challenge.rw_mr0066_01.Holds := by
  refine hd ?_
  k_go0
  all_goals try k_fold
  k_steps
  unfold Stop
  rename News _ _ _ _ => N9
  rename Fr _ _ _ _ => F9
  rename IntsAre _ (List.map idx64 _) => hI9
  rename Sixes _ _ => hS9
  rw [idx_all _ hS9.rng] at hI9
  refine' told_asg ?hL ?B (fr_many F9 rfl) ?X ?T ?C (news4 N9 (.head _) (.tail _ (.tail _ (.tail _ (.tail _ (.tail _ (.tail _ (.head _))))))) (.tail _ (.tail _ (.tail _ (.tail _ (.tail _ (.tail _ (.tail _ (.tail _ (.head _))))))))) (.tail _ (.tail _ (.tail _ (.tail _ (.tail _ (.tail _ (.tail _ (.tail _ (.tail _ (.head _))))))))))) ?h1 ?h2 hI9 hS9 ?h3 ?h4 ?h5 ?h6 ?h7
  case hL => exact rfl
  case B => k_asm
  case X => k_asm
  case T => k_asm
  case C => assumption
  case h3 => omega
  case h6 => assumption
  case h4 => assumption
  case h5 => assumption
  case h2 => omega
  case h1 => omega
  case h7 =>
    intro D ys nw tl h' tk' F N hT hA hO hV
    k_steps
    unfold Stop
    refine' law_ret ?gL ?gB F ?gX ?gT ?gC N hT hA hO hV ?g3 ?g5 ?g6 ?g7
    case gL => exact rfl
    case gB => k_asm
    case gX => k_asm
    case gT => k_asm
    case gC => assumption
    case g3 => omega
    case g6 => assumption
    case g5 => assumption
    case g7 =>
      intro nw' news' h9 tk9 m9 F9 N9 hT9 hs9
      have hg : GrownAt 74 h9 := by
        rcases hT9 with rfl | ⟨k1, k2, ok, rfl, _⟩
        · exact ⟨_, (N9 _ (hs9 _ (.head _))).1⟩
        · exact ⟨_, (N9 _ (hs9 _ (.head _))).1⟩
      show GoodW _ _ _ _ _ _ _ ∧ GrownAll _ _
      refine ⟨?_, hg, True.intro⟩
      k_end
      kc_close
end Mine
theorem PySem.Challenge.cw_mr0066_01_holds : PySem.Challenge.rw_mr0066_01.Holds := by
  exact Mine.law_try
