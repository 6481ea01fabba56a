import PyProof.Rows.All
import Wide.All
import OpenK.AllK
import Wide.FinOn
import PySem.Challenge.RW_oc0403_01
set_option Elab.async false
set_option maxRecDepth 100000
set_option maxHeartbeats 8000000
section
open PySem PySem.W PyProof.Rows
namespace Mine
open_top hd for PySem.Challenge.rw_oc0403_01
end Mine
end
section
open PySem PySem.W PyProof.Rows
namespace Mine
section
variable {prog : Program} {w : World} {A : Around} {R : Result → Shared → Prop} {I : Addr} {fp wr : List Addr} {G : Array GenState → Array GenState → Prop} {n : Nat} {P : Nat → Value → Prop} {St : Nat → Shared → Prop}
/-- a list that holds some items already takes an iterator's items: of the new list the length is told -/
theorem grow_loop (W : WalksS prog w A.in1 I fp wr G n P St) (S : Addr) (hSf : S ∉ fp) (res : Value) :
    ∀ (k i : Nat) (s : Shared) (acc : Array Value) (c : Nat), n - i = k → i ≤ n → St i s → s.heap.get? S = some (listOf acc c) → acc.size + k ≤ 100000 →
    (∀ s' acc' c', Moved (S :: wr) G s s' → s'.heap.get? S = some (listOf acc' c') → acc'.size = acc.size + k → R (.ok (.ret res)) s') →
    codeAny (model prog w) A (.builtin "list.extend.loop" ⟨[.ref S, .ref I, res], []⟩) R s := by
  have hSw : S ∉ wr := fun h => hSf (W.sub _ h)
  have hsub : ∀ b ∈ wr, b ∈ S :: wr := fun b hb => List.mem_cons_of_mem _ hb
  have hline : sizeLine = 16777216 := by decide
  intro k
  induction k with
  | zero =>
    intro i s acc c hk hi hst hS _ hR
    obtain rfl : i = n := by omega
    refine codeAny_builtin F.entry_extend_loop ?_
    rw [Around.under_plainId F.plain_extend_loop _]
    show wpAny _ A.in1 (pyNext (.ref I) >>= _) _ _ s
    exact wpAny_bind (W.done s _ _ hst fun s' hm => wpAny_pure (hR s' acc c (hm.mono hsub) (hm.heap S _ hSw hS) rfl))
  | succ k ih =>
    intro i s acc c hk hi hst hS hz hR
    have hlt : i < n := by omega
    refine codeAny_builtin F.entry_extend_loop ?_
    rw [Around.under_plainId F.plain_extend_loop _]
    show wpAny _ A.in1 (pyNext (.ref I) >>= _) _ _ s
    refine wpAny_bind (W.item i s _ _ hlt hst fun v s' hP hst' hm => ?_)
    have hS' := hm.heap S _ hSw hS
    show wpAny _ A.in1 (updateSeq S (·.push v) >>= _) _ _ _
    refine wpAny_bind ?_
    refine wpAny_updateSeq hS' rfl (wpAny_pure ⟨plainId_quiet F.plain_extend_loop _, ih (i + 1) _ (acc.push v) _ (by omega) hlt (W.frame _ s' _ s'.toks hst' (Nat.le_refl _) fun b hb o e => ?_) (Heap.get?_update_self _ hS' rfl) (by rw [Array.size_push]; omega) fun s'' acc' c' hm'' hS'' hacc' => ?_⟩)
      (by omega) (by show (acc.push v).size ≤ sizeLine + 1; rw [Array.size_push]; omega)
    · exact (Heap.get?_update_other _ _ (fun h : S = b => hSf (by rw [h]; exact hb))).trans e
    · refine hR s'' acc' c' (Moved.trans W.gtrans ((hm.mono hsub).then_heap (Nat.le_refl _) fun b o hb e => ?_) hm'') hS'' (by rw [hacc', Array.size_push]; omega)
      exact (Heap.get?_update_other _ _ (fun h : S = b => hb (by rw [h]; exact List.mem_cons_self))).trans e
end
section
variable {prog : Program} {w : World} {A : Around} {E : Value → Shared → Prop} {s : Shared} {h₀ : Heap} {L D : Addr} {m : Str → Option Value} {news : List (Addr × Obj)} {news' : Array Value → Nat → List (Addr × Obj)}
theorem extend_str {its : Array Value} {n : Nat} {x : Str} {t : Tok} {Q : Value → Shared → Prop} (hh : A.handled = none) (FF : Fr h₀ L s.heap m) (N : News h₀ L s.heap news)
    (U : ∀ its' n', Upd D (listOf its n) (listOf its' n') news (news' its' n'))
    (h : ∀ h' tk its' n', its'.size = its.size + x.cps.size → Fr h₀ L h' m → News h₀ L h' (news' its' n') → Q .none { s with heap := h', toks := tk }) (hsz : its.size + x.cps.size ≤ 100000) :
    wpAny (model prog w) A (call (.builtin "list.extend") [.ref D, .str x t]) Q E s := by
  obtain ⟨pre, post, e1, _, a, b⟩ := (U #[] 0).split
  have z := N (D, listOf its n) (by rw [e1]; exact List.mem_append.mpr (.inr (.head _)))
  have hS := z.1
  have hSI : D ≠ s.heap.objs.size := Nat.ne_of_lt (Heap.lt_size hS)
  have hSf : D ∉ [s.heap.objs.size] := fun hm => hSI (List.mem_singleton.mp hm)
  refine wpAny_call (codeAny_call_builtin F.slot_list_extend.plain F.entry_list_extend (F.slot_list_extend.check _ _ _ _ _ _ _ _ ⟨_, hS, rfl⟩ (F.args_list_extend_2 _ _) ?_))
  show wpAny _ _ (Builtin.List.listExtendWith (.ref D) (.str x t) .none) _ _ _
  unfold Builtin.List.listExtendWith
  refine wpAny_bind (wpAny_typeOf (T := "str") (v := .str x t) rfl ?_)
  have h1 : Builtin.List.listSameRef (.ref D) (.str x t) = false := rfl
  have h2 : (Value.type "str" == Value.type "list") = false := by decide
  have h3 : (Value.type "str" == Value.type "tuple") = false := by decide
  simp only [h1, h2, h3, Bool.or_false, Bool.false_eq_true, if_false]
  refine wpAny_bind (wpAny_pyIter_str fun o St W hst => ?_)
  refine wpAny_bind (wpAny_holding ?_)
  unfold Builtin.List.listLengthHint
  refine wpAny_bind (wpAny_specialOf (T := "str") (v := .str x t) rfl F.str_len ?_)
  wp_delta
  refine wpAny_bind (wpAny_isInstance (T := "str") (v := .str x t) (b := true) rfl (by rw [isSubtype_type]; kernel_rfl) ?_)
  show wpAny _ _ (typeOf (Value.str x t) >>= _) _ _ _
  refine wpAny_bind (wpAny_typeOf (T := "str") (v := .str x t) rfl ?_)
  refine wpAny_pure ?_
  rw [if_neg (by decide)]
  refine wpAny_pure ⟨plainId_quiet F.plain_extend_loop _, grow_loop (W A.in1 hh).toS _ hSf _ x.cps.size 0 _ _ _ rfl (Nat.zero_le _) hst (Heap.get?_push_of_some _ hS) (by omega) fun s' acc' c' hm hS' hacc => ?_⟩
  rw [Moved.eq_with hm]
  have keep : ∀ b ob, b ≠ D → s.heap.get? b = some ob → s'.heap.get? b = some ob := fun b ob hb e => hm.heap b ob (fun hmem => by
    rcases List.mem_cons.mp hmem with e' | hmem
    · exact hb e'
    · exact absurd (Heap.lt_size e) (by rw [List.mem_singleton.mp hmem]; exact Nat.lt_irrefl _)) (Heap.get?_push_of_some _ e)
  obtain ⟨oL, es, ep, hL, r⟩ := FF.ns
  have F' : Fr h₀ L s'.heap m := ⟨⟨oL, es, ep, keep _ _ (Ne.symm z.2.1) hL, r⟩, fun c o q => keep c o (fun z' => by have := z.2.2; dsimp only at this; rw [← z', q] at this; cases this) (FF.keep c o q), FF.above⟩
  obtain ⟨pre', post', e1', e2', a', b'⟩ := (U acc' c').split
  refine h s'.heap s'.toks acc' c' hacc F' fun p hp => ?_
  rw [e2'] at hp
  rcases List.mem_append.mp hp with q | q
  · have P := N p (by rw [e1']; exact List.mem_append_left _ q)
    exact ⟨keep _ _ (a' p q) P.1, P.2⟩
  · rcases List.mem_cons.mp q with rfl | q
    · exact ⟨hS', z.2⟩
    · have P := N p (by rw [e1']; exact List.mem_append_right _ (.tail _ q))
      exact ⟨keep _ _ (b' p q) P.1, P.2⟩
end
end Mine
end
section
open PySem PySem.W PyProof.Rows
namespace Mine
/-- what stood before and is none of these stands as it stood -/
def Kept (h : Heap) (news : List (Addr × Obj)) (h' : Heap) : Prop := ∀ b o, h.get? b = some o → b ∉ news.map (·.1) → h'.get? b = some o
section
variable {prog : Program} {w : World} {A A₀ : Around} {s : Shared} {K : Frag} {L : Addr} {h₀ base : Heap} {m mg mb : Str → Option Value} {news : List (Addr × Obj)} {p : Program} {loose : List Str} {mean : ExcName → Option Value}
/-- a def of the text is entered; its own base keeps all but the ledger -/
theorem code_kept {env : Env} {outer : List Env} {R : Result → Shared → Prop} {name qual : Str} {params : Arguments} {body : List Stmt} {scope : Scope} {dV kV doc pm cdv ct oc : Value} {an od : Option Addr} {osl : Array (Option Value)} {f : Addr} {args : Args} {binds : List (Str × Value)}
    (B : Below A₀ base outer h₀) (FF : Fr h₀ L s.heap m) (X₀ : K.In h₀) (N : News h₀ L s.heap news) (T : Top p loose mean mg mb h₀) (hA : A.frames = some (env :: outer)) (hf : env.frame = some L) (hke : env.scope.kind = .function)
    (ho : K.lookup f = some ⟨oc, od, .func (fnOf name qual params body scope dV kV doc pm an cdv ct), osl⟩) (hcd : codeIn K cdv qual = true) (hroom : A.depth < recursionLimit)
    (hbind : BindsTo s (fnOf name qual params body scope dV kV doc pm an cdv ct) args binds) (hloc : ∀ y ∈ binds, scope.names.lookup y.1 = some .local)
    (h : ∀ g L' h₁, Kept s.heap news g → Fr h₀ L g m → Fr g L' h₁ (fun y => binds.reverse.lookup y) → News g L' h₁ news → Below A base (env :: outer) g → K.In g → Top p loose mean mg mb g → (∀ p ∈ news, p.1 < L') →
      wpAny (model prog w) (A.deeper (envOf qual scope L' f cdv)) (execs body (envOf qual scope L' f cdv))
        (fun fl s' => LeaveK h₀ L m g R (match fl with | .ret v => v | _ => .none) s')
        (fun e s' => wpAny (model prog w) (A.deeper (envOf qual scope L' f cdv)) (leaving (envOf qual scope L' f cdv) e) (fun _ s'' => R (.error e) s'') (fun e' s'' => R (.error e') s'') s')
        { s with heap := h₁, toks := s.toks + binds.length })
    (hco : scope.isCoroutine = false) (hgen : scope.isGenerator = false) (hk : scope.kind = .function)
    (hcell : ∀ x ∈ scope.names, x.2 ≠ .cell) : codeAny (model prog w) A (.call (.ref f) args) R s := by
  obtain ⟨FG, BG, st, lv⟩ := groundX (R := R) B FF N hA hf hke
  refine codeAny_call_def (fd := fnOf name qual params body scope dV kV doc pm an cdv ct) (body := body) (binds := binds) hroom ((X₀.keeps FF.keep) _ _ ho) rfl (T.nolimit.keeps FF.keep) (codeRec_of (X₀.keeps FF.keep) hcd) rfl hbind hcell hloc (fun h₁ hns hk₁ => ?_) hco hgen hk
  exact wpAny_mono (h _ s.heap.objs.size h₁ (fun b o e n => hideAll_get _ e n) FG ⟨hns, fun b o e => hk₁ b o (of_hideAll _ e), Nat.le_of_eq (hideAll_size _ _)⟩
    (fun p hp => ⟨hk₁ _ _ (N p hp).1, Nat.ne_of_lt (Heap.lt_size (N p hp).1), hideAll_none _ (List.mem_map_of_mem hp)⟩) BG (X₀.keeps st) (T.keeps st) (fun p hp => Heap.lt_size (N p hp).1)) (fun fl s' hl => lv _ _ hl) fun _ _ y => y
end
theorem Kept.fr {h h' g : Heap} {news : List (Addr × Obj)} {L : Addr} {m : Str → Option Value} (k : Kept h news g) (F : Fr g L h' m) : Kept h news h' := fun b o e n => F.keep b o (k b o e n)
def pieceStmt : Stmt := match PySem.Challenge.pw_oc0403_01.main.body with
  | _ :: _ :: _ :: .FunctionDef _ _ (_ :: _ :: d :: _) _ _ _ _ _ _ _ :: _ => d
  | _ => .Pass ⟨0, 0, 0, 0⟩
def pieceArgs : Arguments := match pieceStmt with
  | .FunctionDef _ a _ _ _ _ _ _ _ _ => a
  | _ => ⟨[], [], none, [], [], none, []⟩
def pieceBody : List Stmt := match pieceStmt with
  | .FunctionDef _ _ b _ _ _ _ _ _ _ => b
  | _ => []
def pieceScope : Scope := match pieceStmt with
  | .FunctionDef _ _ _ _ _ _ sc _ _ _ => sc
  | _ => ⟨.module, [], false, false, []⟩
/-- the lexer and what it reads from: all that a reading leaves as it is -/
structure LW where
  (lx dlx st dst fp cc pb0 pb gone cT cG : Addr)
  (qual text : Str)
  (dc pm ct : Value)
  (oc oT oG : Obj)
  (vs : Array Value)
  (tt tq t1 t3 t4 t5 t6 u1 u2 u3 u4 u5 u6 u7 : Tok)
abbrev lexDict (w : World) (x : LW) (ln : Int) (t2 : Tok) : Obj := dictOf [⟨PyData.keyHash w.params (Str.ofString "lineno"), .str (Str.ofString "lineno") x.t1, .int ln t2⟩, ⟨PyData.keyHash w.params (Str.ofString "instream"), .str (Str.ofString "instream") x.t3, .ref x.st⟩, ⟨PyData.keyHash w.params (Str.ofString "whitespace"), .str (Str.ofString "whitespace") x.t4, .str (Str.ofString "\n\t\x0d ") x.t5⟩, ⟨PyData.keyHash w.params (Str.ofString "pushback"), .str (Str.ofString "pushback") x.t6, .ref x.pb⟩] 4
abbrev lexNews (w : World) (x : LW) (items : Array Value) (ne : Nat) (ln : Int) (t2 : Tok) : List (Addr × Obj) :=
  [(x.gone, listOf items ne), (x.dlx, lexDict w x ln t2), (x.lx, instObj 52 x.dlx), (x.st, instObj 52 x.dst),
      (x.dst, dictOf [⟨PyData.keyHash w.params (Str.ofString "lineno"), .str (Str.ofString "lineno") x.u1, .int 1 x.u2⟩, ⟨PyData.keyHash w.params (Str.ofString "instream"), .str (Str.ofString "instream") x.u3, .none⟩, ⟨PyData.keyHash w.params (Str.ofString "whitespace"), .str (Str.ofString "whitespace") x.u4, .str (Str.ofString "\n\t\x0d ") x.u5⟩, ⟨PyData.keyHash w.params (Str.ofString "pushback"), .str (Str.ofString "pushback") x.u6, .ref x.pb0⟩, ⟨PyData.keyHash w.params (Str.ofString "read"), .str (Str.ofString "read") x.u7, .ref x.fp⟩] 5),
      (x.fp, fnMade (Str.ofString "_law_piece") x.qual pieceArgs pieceBody pieceScope [(Str.ofString "text", x.cT), (Str.ofString "gone", x.cG)] x.dc x.pm x.cc x.ct), (x.cc, x.oc), (x.cT, x.oT), (x.cG, x.oG)]
structure LW.Ok (x : LW) : Prop where
  h1 : x.oT.data = .cell (some (.str x.text x.tt))
  h2 : x.oG.data = .cell (some (.ref x.gone))
  h3 : x.oc.data = .fields x.vs
  h4 : x.vs[1]? = some (.str x.qual x.tq)
  hg : @LT.lt Nat _ 58 x.cT ∧ @LT.lt Nat _ x.cT x.cG ∧ @LT.lt Nat _ x.cG x.dst ∧ @LT.lt Nat _ x.dst x.st ∧ @LT.lt Nat _ x.st x.pb0 ∧ @LT.lt Nat _ x.pb0 x.gone ∧ @LT.lt Nat _ x.gone x.cc ∧ @LT.lt Nat _ x.cc x.fp ∧ @LT.lt Nat _ x.fp x.dlx ∧ @LT.lt Nat _ x.dlx x.lx ∧ @LT.lt Nat _ x.lx x.pb
  hn : x.text.length ≤ 1000
/-- the sign that is read at a place: none behind the end -/
abbrev signAt (x : Str) (i : Nat) : Str := Txt.slice x (some (i : Int)) (some ((i : Int) + 1))
abbrev nlOf (c : Str) : Int := if (c == Str.ofString "\n") = true then 1 else 0

local macro_rules | `(tactic| k_room) => `(tactic| ((try simp only [depth_under_make, depth_under_kw, depth_in1, depth_deeper, depth_caller] at *); (try dsimp only [ktrTop] at *); (simp only [recursionLimit] at *); omega))
local macro_rules | `(tactic| walk_at "getMethod ref") => `(tactic| ((with_reducible show wpAny _ _ (getMethod (Value.ref _) (Str.ofString "read") _) _ _ _); walk_at "last getMethod ref"))
local macro_rules | `(tactic| walk_at "call builtin:list.extend") => `(tactic| (k_here; (show wpAny _ _ (call (Value.builtin "list.extend") [Value.ref _, Value.str _ _]) _ _ _); k_dflt (refine' extend_str ?k0 ?k1 ?k2 ?k3 ?_ ?z; (case k0 => rfl); (case k1 => k_asm); (case k2 => k_asm); (case k3 => (intro its' n'; k_upd)); (case z => (simp only [Str.length] at *; omega))); intro h' tk' its' n' hz' F' N'; (try dsimp only at N')))
/-- a def is entered as code_kept says -/
local macro_rules | `(tactic| walk_at "mine enter") => `(tactic| (refine' code_kept ?k1 ?k2 ?k3 ?k4 ?k5 ?kA ?kF ?kK ?k6 ?k7 ?k8 ?k9 ?kB ?_ ?c2 ?c3 ?c4 ?c5; (case kA => exact rfl); (case kF => exact rfl); (case kK => first | exact rfl | assumption); (case k1 => k_asm); (case k2 => k_asm); (case k3 => k_asm); (case k4 => k_asm); (case k5 => k_asm); (case k6 => k_is); (case k7 => k_is); (case k8 => k_room); (case k9 => exact BindsTo.of_eq rfl); (case c5 => decide); (case kB => exact locs rfl); (case c2 => exact rfl); (case c3 => exact rfl); (case c4 => exact rfl)))
theorem read_ok {w : World} {mean : ExcName → Option Value} {mg mb : Str → Option Value} {p : Program} {loose : List Str}
    {dp un : Nat} {gd : Option (List Code)} {cn : Str} {cs : Scope} {a : Addr} {ccd : Value} {cl : List (Str × Addr)} {outer : List Env} {A₀ : Around} {base h₀ : Heap} {L : Addr} {m : Str → Option Value} {s : Shared}
    {x : LW} {items : Array Value} {ne : Nat} {ln : Int} {t2 : Tok} {R : Result → Shared → Prop}
    (B : Below A₀ base outer h₀) (FF : Fr h₀ L s.heap m) (X : (Mine.hd.heap_39 w.params).In h₀) (N : News h₀ L s.heap (lexNews w x items ne ln t2))
    (T : Top p loose mean mg mb h₀) (hcd : CodeHd base 62 58) (hk : cs.kind = .function) (ok : x.Ok) (hit : items.size ≤ 1000) (hd : dp < 550)
    (hret : ∀ h' tk' its' ne' t2' tc, its'.size = items.size + (signAt x.text items.size).length → Fr h₀ L h' m → News h₀ L h' (lexNews w x its' ne' (ln + nlOf (signAt x.text items.size)) t2') → Kept s.heap (lexNews w x items ne ln t2) h' →
      R (.ok (.ret (.str (signAt x.text items.size) tc))) { s with heap := h', toks := tk' }) :
    codeAny (model PySem.Challenge.rw_oc0403_01.row.prog w) (ktrTop dp un gd cn cs L a ccd cl outer) (.call (.ref 35) ⟨[.ref x.lx], []⟩) R s := by
  have dummy : PySem.Challenge.rw_oc0403_01.prog = PySem.Challenge.rw_oc0403_01.prog ∧ Mine.hd.heap_39 = Mine.hd.heap_39 := by
    k_fill
    exact ⟨rfl, rfl⟩
  clear dummy
  obtain ⟨h1, h2, h3, h4, hg, hn⟩ := ok
  w_on
  k_dflt walk_at "mine enter"
  intro g' L' h' KG' FG' F' N' B' X' T' l1
  clear l1
  dsimp only
  dsimp only [lexNews, lexDict] at N'
  conv at N' in (pieceArgs) => whnf
  conv at N' in (pieceBody) => whnf
  conv at N' in (pieceScope) => whnf
  k_fold
  k_steps
  · have e : nlOf (signAt x.text items.size) = 1 := if_pos (by assumption)
    exact hret _ _ _ _ _ _ (by assumption) (by k_asm) (by rw [e]; k_asm) (KG'.fr (by k_asm))
  · have e : nlOf (signAt x.text items.size) = 0 := if_neg (Bool.eq_false_iff.mp (by assumption))
    exact hret _ _ _ _ _ _ (by assumption) (by k_asm) (by rw [e, Int.add_zero]; k_asm) (KG'.fr (by k_asm))
end Mine
end
section
open PySem PySem.W PyProof.Rows
namespace Mine
theorem slot_ci_next : Slot "callable_iterator" "__next__" "callable_iterator.__next__" :=
  .of (owner := "callable_iterator") (n := "__next__") (by rw [typeLookup_type, builtinLookup_eq_fast]; kernel_rfl) (by decide +kernel) (by decide +kernel) (by decide +kernel)
    (by first | exact .inl (by decide +kernel) | exact .inr (by decide +kernel)) (by rw [isSubtype_type]; kernel_rfl)
theorem entry_ci_next : entryFor table "callable_iterator.__next__" = some Builtin.«callable_iterator.__next__» := entryFor_of_tree (by kernel_rfl)
theorem args_ci_next (a : Value) : argsOk "callable_iterator.__next__" ⟨[a], []⟩ := by unfold argsOk; kernel_rfl
theorem slot_ci_iter : Slot "callable_iterator" "__iter__" "callable_iterator.__iter__" :=
  .of (owner := "callable_iterator") (n := "__iter__") (by rw [typeLookup_type, builtinLookup_eq_fast]; kernel_rfl) (by decide +kernel) (by decide +kernel) (by decide +kernel)
    (by first | exact .inl (by decide +kernel) | exact .inr (by decide +kernel)) (by rw [isSubtype_type]; kernel_rfl)
theorem entry_ci_iter : entryFor table "callable_iterator.__iter__" = some Builtin.«dict_keyiterator.__iter__» :=
  entryFor_alias (id' := "dict_keyiterator.__iter__") (by kernel_rfl) rfl (by decide +kernel) (by kernel_rfl)
theorem args_ci_iter (a : Value) : argsOk "callable_iterator.__iter__" ⟨[a], []⟩ := by unfold argsOk; kernel_rfl
theorem meth_call_lookup : typeLookup (.type "method") "__call__" = pure (some (.builtin "method.__call__")) := by rw [typeLookup_type, builtinLookup_eq_fast]; kernel_rfl
theorem entry_iter : entryFor table "iter" = some Builtin.«iter» := entryFor_of_tree (by kernel_rfl)

/-- what iter(f, sentinel) makes of a bound method and a text -/
abbrev ciObj (q : Addr) (x : Str) (t : Tok) : Obj := { cls := .type "callable_iterator", data := .fields #[.ref q, .str x t, .bool false] }
section
variable {prog : Program} {w : World} {A : Around} {E : Value → Shared → Prop} {s : Shared} {it q f lx : Addr} {x : Str} {t : Tok}
theorem ci_iter {Q : Value → Shared → Prop} (hit : s.heap.get? it = some (ciObj q x t)) (h : Q (.ref it) s) : wpAny (model prog w) A (pyIter (.ref it)) Q E s := by
  have hT : s.TypeIs (.ref it) "callable_iterator" := ⟨_, hit, rfl⟩
  refine wpAny_pyIter_slot hT slot_ci_iter (wpAny_call_entry slot_ci_iter hT entry_ci_iter ?_ (args_ci_iter _))
  show wpAny _ _ (ret (.ref it)) _ _ s
  exact wpAny_pure ⟨_, rfl, "callable_iterator", _, hT, slot_ci_next.lookup, h⟩
theorem call_borrowed {M : Model} {g : Value} {pos : List Value} {Q : Value → Shared → Prop} (h : wpAny M A (call g pos) Q E s) : wpAny M A (callBorrowed g pos) Q E s := by
  have e : callBorrowed g pos = (call g pos).keep [borrowed] := by
    unfold callBorrowed call runValue run
    show _ = Sem.keep [borrowed] (Sem.bind _ _)
    simp only [Sem.bind, Sem.keep]
    congr 1
    funext r
    rcases r with e | fl
    · rfl
    · cases fl <;> rfl
  rw [e]
  exact Calls.wpAny_keep h
theorem borrows_meth {M : Model} {fd : FuncData} {fo : Obj} {Q : Bool → Shared → Prop} {self : Value} (hq : s.heap.get? q = some (methodObj (.ref f) self)) (hf : s.heap.get? f = some fo) (hfd : fo.data = .func fd) (h : Q true s) :
    wpAny M A (borrowsExactly (.ref q)) Q E s := by
  unfold borrowsExactly
  refine wpAny_bind (wpAny_load hq ?_)
  dsimp only
  rw [if_pos (by decide)]
  show wpAny M A (load f >>= _) Q E s
  refine wpAny_bind (wpAny_load hf ?_)
  rw [hfd]
  exact wpAny_pure h
/-- what a call of the method may end in, behind a step of the iterator -/
def CiBack (it q f lx : Addr) (x : Str) (t : Tok) (fo : Obj) (Q : Option Value → Shared → Prop) (r : Result) (s' : Shared) : Prop :=
  ∃ c u, r = .ok (.ret (.str c u)) ∧ s'.heap.get? it = some (ciObj q x t) ∧ s'.heap.get? q = some (methodObj (.ref f) (.ref lx)) ∧ s'.heap.get? f = some fo ∧
    (x ≠ c → Q (some (.str c u)) s') ∧ (x = c → ∀ h', Heap.ExtBut it s'.heap h' → Q none { s' with heap := h' })
/-- one step of it: the method is called, a text that is not the sentinel is handed on; at the sentinel the iterator ends -/
theorem ci_next {fd : FuncData} {fo : Obj} {Q : Option Value → Shared → Prop} (hh : A.handled = none) (hit : s.heap.get? it = some (ciObj q x t)) (hq : s.heap.get? q = some (methodObj (.ref f) (.ref lx))) (hf : s.heap.get? f = some fo) (hfd : fo.data = .func fd)
    (h : codeAny (model prog w) A.in1 (.call (.ref f) ⟨[.ref lx], []⟩) (CiBack it q f lx x t fo Q) s) :
    wpAny (model prog w) A (pyNext (.ref it)) Q E s := by
  have hT : s.TypeIs (.ref it) "callable_iterator" := ⟨_, hit, rfl⟩
  unfold pyNext
  refine wpAny_bind (wpAny_attempt (wpAny_callSpecial?_slot (name := Str.ofString "__next__") hT slot_ci_next (wpAny_call_entry slot_ci_next hT entry_ci_next ?_ (args_ci_next _))))
  show wpAny _ _ (field (.ref it) 2 >>= _) _ _ s
  refine wpAny_bind (wpAny_field hit rfl (x := .bool false) rfl ?_)
  rw [if_neg (by decide)]
  show wpAny _ _ (field (.ref it) 0 >>= _) _ _ s
  refine wpAny_bind (wpAny_field hit rfl (x := .ref q) rfl ?_)
  refine wpAny_bind (wpAny_attempt ?_)
  unfold callOutOfASlot
  refine wpAny_bind (borrows_meth hq hf hfd ?_)
  rw [if_pos rfl]
  refine call_borrowed (wpAny_call (method_call hq (codeAny_mono h fun r s' hr => ?_)))
  obtain ⟨c, u, rfl, hit', hq', hf', hy, hn⟩ := hr
  dsimp only
  refine wpAny_bind (wpAny_field hit' rfl (x := .bool false) rfl ?_)
  rw [if_neg (by decide)]
  refine wpAny_bind (wpAny_field hit' rfl (x := .str x t) rfl ?_)
  refine wpAny_bind (wpAny_holding (wpAny_eqBool_str ?_))
  by_cases hc : x = c
  · rw [decide_eq_true hc]
    rw [if_neg (by decide)]
    refine wpAny_bind (wpAny_rule ?_)
    refine wpAny_bind ?_
    show wpAny _ _ (field (.ref it) 0 >>= fun v => slotLetsGo _ v _ >>= fun _ => setField (.ref it) 0 .none >>= fun _ => setField (.ref it) 1 .none >>= fun _ => setField (.ref it) 2 (.bool true)) _ _ s'
    refine wpAny_bind (wpAny_field hit' rfl (x := .ref q) rfl ?_)
    refine wpAny_bind ?_
    unfold slotLetsGo
    dsimp only
    refine wpAny_bind (borrows_meth hq' hf' hfd ?_)
    rw [if_pos rfl]
    refine wpAny_pure ?_
    refine wpAny_bind (wpAny_setField hit' rfl (by simp) ?_)
    have hit2 := Heap.get?_update_self (Obj.mapFields (·.setIfInBounds 0 .none)) hit' rfl
    refine wpAny_bind (wpAny_setField hit2 rfl (by simp) ?_)
    have hit3 := Heap.get?_update_self (Obj.mapFields (·.setIfInBounds 1 .none)) hit2 rfl
    refine wpAny_setField hit3 rfl (by simp) ?_
    show wpAny _ _ (newExc (.type "StopIteration") [] >>= _) _ _ _
    refine wpAny_bind ?_
    simp only [newExc, newTuple]
    refine wpAny_bind (wpAny_newObj_type ?_ (by size_fits))
    refine wpAny_bind (m := firstArgMember _ _) (wpAny_of_eq (a := Value.none) (by first | rfl | (simp only [firstArgMember]; rfl)) ?_)
    refine wpAny_newObj_type ?_ (by size_fits)
    simp only [raiseNew]
    refine wpAny_bind (wpAny_handled ?_)
    rw [show A.in1.handled = none from hh]
    refine wpAny_bind (wpAny_pure (wpAny_throw ?_))
    refine wpAny_bind (wpAny_isInstance (T := "StopIteration") (b := true) ⟨_, Heap.get?_push_size _ rfl, rfl⟩ isSubtype_stop ?_)
    refine wpAny_pure (hn hc _ ?_)
    exact ((((Heap.SameBut.update ..).trans ((Heap.SameBut.update ..).trans (Heap.SameBut.update ..))).extBut.push _).push _)
  · rw [decide_eq_false hc]
    rw [if_pos (by decide)]
    exact wpAny_pure ⟨_, rfl, wpAny_pure (hy hc)⟩
/-- iter(f, sentinel) of a bound method -/
theorem call_iter2 {g : Value} {Q : Value → Shared → Prop} (hq : s.heap.get? q = some (methodObj (.ref f) g))
    (h : Q (.ref s.heap.objs.size) { s with heap := s.heap.push (ciObj q x t) }) : wpAny (model prog w) A (call (.builtin "iter") [.ref q, .str x t]) Q E s := by
  have hT : s.TypeIs (.ref q) "method" := ⟨_, hq, rfl⟩
  refine Calls.call_function_entry (by decide +kernel) (by decide +kernel) entry_iter (by unfold argsOk; kernel_rfl) ?_
  unfold Builtin.«iter»
  show wpAny _ _ (specialOf (.ref q) (Str.ofString "__call__") >>= _) _ _ _
  refine wpAny_bind (wpAny_specialOf hT meth_call_lookup ?_)
  rw [if_neg (by decide)]
  refine wpAny_bind (wpAny_rule (wpAny_bind (wpAny_newObj_type ?_ (by size_fits))))
  exact wpAny_pure ⟨_, rfl, h⟩
end
end Mine
end
section
open PySem PySem.W PyProof.Rows Builtin Builtin.Str
namespace Mine
theorem signAt_some {x : Str} {i c : Nat} {r : List Nat} (h : x.cps.toList.drop i = c :: r) : signAt x i = ⟨#[c]⟩ := by
  have hl : i < x.cps.size := by
    have := congrArg List.length h
    simp only [List.length_drop, List.length_cons, Array.length_toList] at this
    omega
  have := slice_closesL (x := x) (i := (i : Int)) (j := (i : Int) + 1) (by omega) (by omega) (by show _ ≤ ((x.cps.size : Nat) : Int); omega)
  have e := eq_of_beq this
  show Txt.slice x (some (i : Int)) (some ((i : Int) + 1)) = _
  rw [e, show ((i : Int)).toNat = i from by omega, show ((i : Int) + 1 - (i : Int)).toNat = 1 from by omega, h]
  rfl
theorem signAt_none {x : Str} {i : Nat} (h : x.cps.toList.drop i = []) : signAt x i = Str.ofString "" := by
  have hl : x.cps.size ≤ i := by
    have := congrArg List.length h
    simp only [List.length_drop, List.length_nil, Array.length_toList] at this
    omega
  show Txt.slice x (some (i : Int)) (some ((i : Int) + 1)) = _
  have e0 : strSliceIndices (some (i : Int)) (some ((i : Int) + 1)) 1 x.length = [] := by
    apply List.eq_nil_of_length_eq_zero
    have hx : x.length = x.cps.size := rfl
    unfold strSliceIndices sliceRange
    simp only [show (1 : Int) > 0 by decide, if_true, List.length_map, List.length_range]
    (split <;> (try split) <;> (try split) <;> (try simp only [Int.ediv_one]) <;> omega)
  unfold Txt.slice
  rw [e0]
  split
  · rename_i hc
    have h0 : x.length = 0 := by
      have : (([] : List Nat).length == x.length) = true := by simpa using hc
      have := eq_of_beq this
      simpa using this.symm
    obtain ⟨cps⟩ := x
    have : cps = #[] := Array.eq_empty_of_size_eq_zero h0
    rw [this]
    decide
  · show (⟨#[]⟩ : Str) = _
    decide
section
variable {prog : Program} {w : World} {A : Around} {E : Value → Shared → Prop} {s : Shared} {h₀ : Heap} {L q f : Addr} {m : Str → Option Value} {news : List (Addr × Obj)} {g : Value} {x : Str} {t : Tok}
theorem iter2_K {Q : Value → Shared → Prop} (FF : Fr h₀ L s.heap m) (N : News h₀ L s.heap news) (hq : (q, methodObj (.ref f) g) ∈ news)
    (h : ∀ it h', Fr h₀ L h' m → News h₀ L h' ((it, ciObj q x t) :: news) → (∀ p ∈ news, p.1 < it) → Q (.ref it) { s with heap := h' }) :
    wpAny (model prog w) A (call (.builtin "iter") [.ref q, .str x t]) Q E s :=
  call_iter2 (N.get hq) (h _ _ (FF.push _) (N.push FF _) fun p hp => Heap.lt_size (N p hp).1)
theorem frext {m' : Str → Option Value} {h : Heap} (F : Fr h₀ L h m) (e : ∀ y, m y = m' y) : Fr h₀ L h m' := (funext e) ▸ F
/-- a loop over such an iterator, by what holds between its turns -/
theorem ci_for {env : Env} {it : Addr} {v : Str} {px pos : Pos} {iter : Expr} {body : List Stmt} {Q : Flow → Shared → Prop} (Inv : Nat → Shared → Prop)
    (h : wpAny (model prog w) A (eval iter env) (fun xv s₁ => xv = .ref it ∧ (∃ q x t, s₁.heap.get? it = some (ciObj q x t)) ∧ ∃ n, Inv n s₁) E s)
    (turn : ∀ k s', Inv k s' → wpAny (model prog w) A (pyNext (.ref it)) (OwitTurn prog w A E env v body Q (fun s'' => ∃ k', k' < k ∧ Inv k' s'')) E s')
    (hs : ∀ x, foldedSetIterable iter env x = pure x) (hE : PassesOwn (model prog w) A env E) :
    wpAny (model prog w) A (exec (.For (.Name v px) iter body [] pos) env) Q E s := by
  refine wpAny_For (wpAny_mono h (fun xv s₁ h₁ => ?_) fun _ _ z => z) hs
  obtain ⟨rfl, ⟨q, x, t, ho⟩, n, hI⟩ := h₁
  refine ci_iter ho ?_
  refine codeAny_forLoop (R := fun r s' => match r with | .ok f => Q f s' | .error e => cameBackBy (model prog w) A env E e s') Inv (fun k s' hk => ?_) n hI
  refine wpAny_passesOwn hE (wpAny_mono (turn k s' hk) (fun r s₁ hr => ?_) fun _ _ z => z)
  cases r with
  | none => exact wpAny_execs_nil hr
  | some y =>
    refine wpAny_passesOwn hE (wpAny_assign_Name (wpAny_mono hr (fun _ s₂ h₂ => ?_) fun _ _ z => z))
    refine wpAny_passesOwn hE (wpAny_mono h₂ (fun f s₃ h₃ => ?_) fun _ _ z => z)
    cases f with
    | next => exact h₃
    | cont => exact h₃
    | brk => exact h₃
    | ret _ => exact h₃
end
/-- signs that part words -/
def isWs (c : Nat) : Bool := c == 10 || c == 9 || c == 13 || c == 32
def nlN (c : Nat) : Int := if c = 10 then 1 else 0
/-- the rest of a bare word: the word, the line's number, how many signs are read -/
def lexU (tok : Str) (ln : Int) : List Nat → Option (Str × Int × Nat)
  | [] => none
  | [c] => if isWs c then some (tok, ln + nlN c, 1) else none
  | c :: d :: r =>
    if isWs c then some (tok, ln + nlN c, 1)
    else if c = 92 then (lexU (tok ++ ⟨#[d]⟩) (ln + nlN d) r).map fun z => (z.1, z.2.1, z.2.2 + 2)
    else (lexU (tok ++ ⟨#[c]⟩) ln (d :: r)).map fun z => (z.1, z.2.1, z.2.2 + 1)
/-- the rest of a word in quotation marks -/
def lexQ (tok : Str) (ln : Int) : List Nat → Option (Str × Int × Nat)
  | [] => none
  | [c] => if c = 34 then some (tok, ln, 1) else none
  | c :: d :: r =>
    if c = 34 then some (tok, ln, 1)
    else if c = 92 then (lexQ (tok ++ ⟨#[d]⟩) (ln + nlN d) r).map fun z => (z.1, z.2.1, z.2.2 + 2)
    else (lexQ (tok ++ ⟨#[c]⟩) (ln + nlN c) (d :: r)).map fun z => (z.1, z.2.1, z.2.2 + 1)
def lexO (ln : Int) : List Nat → Option (Str × Int × Nat)
  | [] => some (Str.ofString "", ln, 0)
  | c :: r =>
    if isWs c then (lexO (ln + nlN c) r).map fun z => (z.1, z.2.1, z.2.2 + 1)
    else if c = 34 then (lexQ (Str.ofString "") ln r).map fun z => (z.1, z.2.1, z.2.2 + 1)
    else if c = 92 then match r with
      | [] => none
      | d :: r' => (lexU (Str.ofString "" ++ ⟨#[d]⟩) (ln + nlN d) r').map fun z => (z.1, z.2.1, z.2.2 + 2)
    else (lexU (Str.ofString "" ++ ⟨#[c]⟩) ln r).map fun z => (z.1, z.2.1, z.2.2 + 1)
/-- the ledger while a word is read -/
abbrev getNews (w : World) (x : LW) (items : Array Value) (ne : Nat) (ln : Int) (t2 : Tok) (nb : Nat) (q it : Addr) (ts : Tok) : List (Addr × Obj) :=
  lexNews w x items ne ln t2 ++ [(x.pb, listOf #[] nb), (q, methodObj (.ref 35) (.ref x.lx)), (it, ciObj q (Str.ofString "") ts)]
theorem nsub {h₀ h : Heap} {L : Addr} {l l' : List (Addr × Obj)} (N : News h₀ L h l) (hs : ∀ p ∈ l', p ∈ l) : News h₀ L h l' := fun p hp => N p (hs p hp)
theorem nboth {h₀ h : Heap} {L : Addr} {l l' : List (Addr × Obj)} (N : News h₀ L h l) (N' : News h₀ L h l') : News h₀ L h (l ++ l') := fun p hp => (List.mem_append.mp hp).elim (N p) (N' p)
/-- what is kept stays in the ledger -/
theorem nkept {h₀ h h' : Heap} {L : Addr} {l need : List (Addr × Obj)} (N : News h₀ L h l) (k : Kept h need h') (hs : ∀ p ∈ l, p.1 ∉ need.map (·.1)) : News h₀ L h' l := fun p hp => ⟨k _ _ (N p hp).1 (hs p hp), (N p hp).2⟩
section
variable {w : World} {mean : ExcName → Option Value} {mg mb : Str → Option Value} {p : Program} {loose : List Str}
    {dp un : Nat} {gd : Option (List Code)} {cn : Str} {cs : Scope} {a : Addr} {ccd : Value} {cl : List (Str × Addr)} {outer : List Env} {A₀ : Around} {base h₀ : Heap} {L : Addr} {m : Str → Option Value} {s : Shared}
    {x : LW} {items : Array Value} {ne nb : Nat} {ln : Int} {t2 ts : Tok} {q it : Addr}
theorem own_off (ok : x.Ok) (hq : @LT.lt Nat _ x.pb q ∧ @LT.lt Nat _ q it) :
    ∀ p ∈ [(x.pb, listOf #[] nb), (q, methodObj (.ref 35) (.ref x.lx)), (it, ciObj q (Str.ofString "") ts)], p.1 ∉ (lexNews w x items ne ln t2).map (·.1) := by
  obtain ⟨_, _, _, _, hg, _⟩ := ok
  intro p hp hm
  simp only [lexNews, List.map_cons, List.map_nil, List.mem_cons, List.not_mem_nil, or_false] at hp hm
  rcases hp with rfl | rfl | rfl <;> (dsimp only at hm; rcases hm with e | e | e | e | e | e | e | e | e <;> (have e' : @Eq Nat _ _ := e; omega))
theorem nlOf_one (c : Nat) : nlOf ⟨#[c]⟩ = nlN c := by
  unfold nlOf nlN
  by_cases h : c = 10
  · subst h; decide
  · rw [if_neg h, if_neg]
    intro e
    have e' := eq_of_beq e
    have : (#[c] : Array Nat) = #[10] := (congrArg Str.cps e').trans (by decide)
    simp at this
    exact h this
theorem read_in (B : Below A₀ base outer h₀) (FF : Fr h₀ L s.heap m) (X : (Mine.hd.heap_39 w.params).In h₀) (N : News h₀ L s.heap (getNews w x items ne ln t2 nb q it ts))
    (T : Top p loose mean mg mb h₀) (hcd : CodeHd base 62 58) (hk : cs.kind = .function) (ok : x.Ok) (hit : items.size ≤ 1000) (hd : dp < 550) (hq : @LT.lt Nat _ x.pb q ∧ @LT.lt Nat _ q it) {R : Result → Shared → Prop}
    (h : ∀ h' tk' its' ne' t2' tc, its'.size = items.size + (signAt x.text items.size).length → Fr h₀ L h' m → News h₀ L h' (getNews w x its' ne' (ln + nlOf (signAt x.text items.size)) t2' nb q it ts) →
      R (.ok (.ret (.str (signAt x.text items.size) tc))) { s with heap := h', toks := tk' }) :
    codeAny (model PySem.Challenge.rw_oc0403_01.row.prog w) (ktrTop dp un gd cn cs L a ccd cl outer) (.call (.ref 35) ⟨[.ref x.lx], []⟩) R s :=
  read_ok B FF X (nsub N fun p hp => List.mem_append_left _ hp) T hcd hk ok hit hd fun h' tk' its' ne' t2' tc e F' N' k' =>
    h h' tk' its' ne' t2' tc e F' (nboth N' (nkept (nsub N fun p hp => List.mem_append_right _ hp) k' (own_off ok hq)))
theorem next_ok (B : Below A₀ base outer h₀) (FF : Fr h₀ L s.heap m) (X : (Mine.hd.heap_39 w.params).In h₀) (N : News h₀ L s.heap (getNews w x items ne ln t2 nb q it ts))
    (T : Top p loose mean mg mb h₀) (hcd : CodeHd base 62 58) (hk : cs.kind = .function) (ok : x.Ok) (hit : items.size ≤ 1000) (hd : dp < 550) (hq : @LT.lt Nat _ x.pb q ∧ @LT.lt Nat _ q it) {Q : Option Value → Shared → Prop} {E : Value → Shared → Prop}
    (h : ∀ c r, x.text.cps.toList.drop items.size = c :: r → ∀ h' tk' its' ne' t2' tc, its'.size = items.size + 1 → Fr h₀ L h' m → News h₀ L h' (getNews w x its' ne' (ln + nlN c) t2' nb q it ts) →
      Q (some (.str ⟨#[c]⟩ tc)) { s with heap := h', toks := tk' })
    (h0 : x.text.cps.toList.drop items.size = [] → ∀ h' tk' its' ne' t2', its'.size = items.size → Fr h₀ L h' m → News h₀ L h' (lexNews w x its' ne' ln t2' ++ [(x.pb, listOf #[] nb)]) → Q none { s with heap := h', toks := tk' }) :
    wpAny (model PySem.Challenge.rw_oc0403_01.row.prog w) (ktrTop dp un gd cn cs L a ccd cl outer) (pyNext (.ref it)) Q E s := by
  have Xs := X.keeps FF.keep
  have e35 : ∃ fo fd, (Mine.hd.heap_39 w.params).lookup 35 = some fo ∧ fo.data = .func fd := ⟨_, _, rfl, rfl⟩
  obtain ⟨fo, fd, ho, hfd⟩ := e35
  have mq : (q, methodObj (.ref 35) (.ref x.lx)) ∈ getNews w x items ne ln t2 nb q it ts := List.mem_append_right _ (.tail _ (.head _))
  have mi : (it, ciObj q (Str.ofString "") ts) ∈ getNews w x items ne ln t2 nb q it ts := List.mem_append_right _ (.tail _ (.tail _ (.head _)))
  refine ci_next (A := ktrTop dp un gd cn cs L a ccd cl outer) rfl (N.get mi) (N.get mq) (Xs _ _ ho) hfd ?_
  refine read_in (un := un + 1) B FF X N T hcd hk ok hit hd hq fun h' tk' its' ne' t2' tc e F' N' => ?_
  have mq' : (q, methodObj (.ref 35) (.ref x.lx)) ∈ getNews w x its' ne' (ln + nlOf (signAt x.text items.size)) t2' nb q it ts := List.mem_append_right _ (.tail _ (.head _))
  have mi' : (it, ciObj q (Str.ofString "") ts) ∈ getNews w x its' ne' (ln + nlOf (signAt x.text items.size)) t2' nb q it ts := List.mem_append_right _ (.tail _ (.tail _ (.head _)))
  refine ⟨_, tc, rfl, N'.get mi', N'.get mq', (X.keeps F'.keep) _ _ ho, fun hne => ?_, fun heq hp hx => ?_⟩
  · cases hr : x.text.cps.toList.drop items.size with
    | nil => exact absurd (signAt_none hr).symm hne
    | cons c r =>
      have e1 := signAt_some hr
      rw [e1] at e N' ⊢
      rw [nlOf_one] at N'
      exact h c r hr h' tk' its' ne' t2' tc e F' N'
  · cases hr : x.text.cps.toList.drop items.size with
    | cons c r =>
      rw [signAt_some hr] at heq
      have : (#[] : Array Nat) = #[c] := (by decide : (#[] : Array Nat) = (Str.ofString "").cps).trans (congrArg Str.cps heq)
      simp at this
    | nil =>
      have e1 := signAt_none hr
      have hI := N' _ mi'
      rw [e1] at e N'
      have z : nlOf (Str.ofString "") = 0 := by decide
      rw [z, Int.add_zero] at N'
      have off : ∀ p ∈ lexNews w x its' ne' ln t2' ++ [(x.pb, listOf #[] nb)], p.1 ≠ it := by
        obtain ⟨_, _, _, _, hg, _⟩ := ok
        intro p hp e
        simp only [lexNews, List.cons_append, List.nil_append, List.mem_cons, List.not_mem_nil, or_false] at hp
        rcases hp with rfl | rfl | rfl | rfl | rfl | rfl | rfl | rfl | rfl | rfl <;> (have e' : @Eq Nat _ _ := e; dsimp only at e'; omega)
      obtain ⟨oL, es, ep, hL, r⟩ := F'.ns
      refine h0 hr hp tk' its' ne' t2' (by rw [e]; rfl) ⟨⟨oL, es, ep, hx _ _ (fun z => hI.2.1 z.symm) hL, r⟩, fun b o hb => hx b o (fun z => ?_) (F'.keep b o hb), F'.above⟩ fun p hm => ?_
      · have := hI.2.2; dsimp only at this; rw [← z, hb] at this; cases this
      · have P := N' p (by
          rcases List.mem_append.mp hm with h1 | h1
          · exact List.mem_append_left _ h1
          · exact List.mem_append_right _ (by rw [List.mem_singleton.mp h1]; exact .head _))
        exact ⟨hx _ _ (off p hm) P.1, P.2⟩
end
end Mine
end
section
open PySem PySem.W PyProof.Rows
namespace Mine
/-- get_token's own names -/
abbrev gmap (lx it : Addr) (tok : Str) (tt : Tok) (ch : Option Value) : Str → Option Value := fun y =>
  if y = Str.ofString "ch" then ch else if y = Str.ofString "token" then some (.str tok tt) else if y = Str.ofString "fiter" then some (.ref it) else if y = Str.ofString "self" then some (.ref lx) else none
def getStmt : Stmt := match PySem.Challenge.pw_oc0403_01.main.body with
  | _ :: .ClassDef _ _ _ (_ :: _ :: d :: _) _ _ _ _ _ _ _ :: _ => d
  | _ => .Pass ⟨0, 0, 0, 0⟩
def getScope : Scope := match getStmt with
  | .FunctionDef _ _ _ _ _ _ sc _ _ _ => sc
  | _ => ⟨.module, [], false, false, []⟩
def loopO : Stmt := match getStmt with
  | .FunctionDef _ _ (_ :: _ :: _ :: l :: _) _ _ _ _ _ _ _ => l
  | _ => .Pass ⟨0, 0, 0, 0⟩
def loopQ : Stmt := match loopO with
  | .For _ _ (_ :: .If _ (l :: _) _ _ :: _) _ _ => l
  | _ => .Pass ⟨0, 0, 0, 0⟩
def loopU : Stmt := match loopO with
  | .For _ _ (_ :: .If _ _ (_ :: _ :: l :: _) _ :: _) _ _ => l
  | _ => .Pass ⟨0, 0, 0, 0⟩
def GetInv (w : World) (x : LW) (g : Heap) (L : Addr) (nb : Nat) (q it : Addr) (ts : Tok) (s₀ : Shared) (fin : Str × Int × Nat) (lexf : Str → Int → List Nat → Option (Str × Int × Nat)) (k : Nat) (s' : Shared) : Prop :=
  ∃ h tk items ne ln t2 tok tt ch z, s' = { s₀ with heap := h, toks := tk } ∧ Fr g L h (gmap x.lx it tok tt ch) ∧ News g L h (getNews w x items ne ln t2 nb q it ts) ∧ k = (x.text.cps.toList.drop items.size).length ∧
    lexf tok ln (x.text.cps.toList.drop items.size) = some z ∧ z.1 = fin.1 ∧ z.2.1 = fin.2.1 ∧ items.size + z.2.2 = fin.2.2 ∧ items.size ≤ 1000 ∧ tok.length ≤ items.size
/-- a lower turn of the loop -/
def Lower (Inv : Nat → Shared → Prop) (k : Nat) (s : Shared) : Prop := ∃ k', k' < k ∧ Inv k' s
/-- a tree that the walk shall leave alone -/
def holdT {α : Type} (t : Sem α) : Sem α := t
theorem hold_on {α : Type} {M : Model} {A : Around} {t : Sem α} {Q : α → Shared → Prop} {E : Value → Shared → Prop} {s : Shared} (h : wpAny M A (holdT t) Q E s) : wpAny M A t Q E s := h
theorem hold_off {α : Type} {M : Model} {A : Around} {t : Sem α} {Q : α → Shared → Prop} {E : Value → Shared → Prop} {s : Shared} (h : wpAny M A t Q E s) : wpAny M A (holdT t) Q E s := h
theorem ws_occ (c : Nat) : (Builtin.Str.occurrences (Str.ofString "\n\t\x0d ") ⟨#[c]⟩ 0 (Str.ofString "\n\t\x0d ").length 1).isEmpty = !isWs c := by
  have h := StrLaws.found_one (Str.ofString "\n\t\x0d ") c
  have e : (Str.ofString "\n\t\x0d ").cps.toList = [10, 9, 13, 32] := by decide
  rw [e] at h
  have h2 : decide (c ∈ [10, 9, 13, 32]) = isWs c := by
    unfold isWs
    simp only [List.mem_cons, List.not_mem_nil, or_false]
    by_cases h1 : c = 10 <;> by_cases h2 : c = 9 <;> by_cases h3 : c = 13 <;> by_cases h4 : c = 32 <;> simp [h1, h2, h3, h4]
  rw [h2] at h
  rw [← h, Bool.not_not]
theorem one_beq (c d : Nat) : ((⟨#[c]⟩ : Str) == ⟨#[d]⟩) = decide (c = d) := by
  by_cases h : c = d
  · subst h; simp
  · rw [decide_eq_false h]
    refine beq_eq_false_iff_ne.mpr fun e => h ?_
    have := congrArg Str.cps e
    simpa using this
theorem drop_more {l : List Nat} {i c : Nat} {r : List Nat} (h : l.drop i = c :: r) : l.drop (i + 1) = r := by
  rw [← List.drop_drop, h]; rfl
theorem drop_lt {x : Str} {i c : Nat} {r : List Nat} (h : x.cps.toList.drop i = c :: r) : i < x.length := by
  have := congrArg List.length h
  simp only [List.length_drop, List.length_cons, Array.length_toList] at this
  show i < x.cps.size
  omega
theorem fr_gmap {h₀ h : Heap} {L lx it : Addr} {m : Str → Option Value} {tok : Str} {tt : Tok} (FF : Fr h₀ L h m) (h1 : m (Str.ofString "token") = some (.str tok tt)) (h2 : m (Str.ofString "fiter") = some (.ref it)) (h3 : m (Str.ofString "self") = some (.ref lx))
    (h4 : ∀ y, y ≠ Str.ofString "ch" → y ≠ Str.ofString "token" → y ≠ Str.ofString "fiter" → y ≠ Str.ofString "self" → m y = none) : Fr h₀ L h (gmap lx it tok tt (m (Str.ofString "ch"))) :=
  frext FF fun y => by
    by_cases e1 : y = Str.ofString "ch"
    · subst e1; rfl
    by_cases e2 : y = Str.ofString "token"
    · subst e2; exact h1
    by_cases e3 : y = Str.ofString "fiter"
    · subst e3; exact h2
    by_cases e4 : y = Str.ofString "self"
    · subst e4; exact h3
    rw [h4 y e1 e2 e3 e4]
    simp only [gmap, if_neg e1, if_neg e2, if_neg e3, if_neg e4]
theorem nl_ws {c : Nat} (h : isWs c = false) : nlN c = 0 := by
  unfold nlN
  rw [if_neg]
  intro e
  subst e
  cases h
theorem lexU_ws {tok : Str} {ln : Int} {c : Nat} {r : List Nat} {z : Str × Int × Nat} (hw : isWs c = true) (h : lexU tok ln (c :: r) = some z) : z = (tok, ln + nlN c, 1) := by
  cases r with
  | nil => simp only [lexU, hw, if_true] at h; exact (Option.some.inj h).symm
  | cons d r => simp only [lexU, hw, if_true] at h; exact (Option.some.inj h).symm
theorem lexU_other {tok : Str} {ln : Int} {c : Nat} {r : List Nat} {z : Str × Int × Nat} (hw : isWs c = false) (hc : c ≠ 92) (h : lexU tok ln (c :: r) = some z) :
    ∃ z', lexU (tok ++ ⟨#[c]⟩) ln r = some z' ∧ z'.1 = z.1 ∧ z'.2.1 = z.2.1 ∧ z'.2.2 + 1 = z.2.2 := by
  cases r with
  | nil => simp [lexU, hw] at h
  | cons d r =>
    simp only [lexU, hw, Bool.false_eq_true, if_false, if_neg hc] at h
    obtain ⟨z', h1, h2⟩ := Option.map_eq_some_iff.mp h
    exact ⟨z', h1, by rw [← h2], by rw [← h2], by rw [← h2]⟩
theorem lexU_bs {tok : Str} {ln : Int} {r : List Nat} {z : Str × Int × Nat} (h : lexU tok ln (92 :: r) = some z) :
    ∃ d r' z', r = d :: r' ∧ lexU (tok ++ ⟨#[d]⟩) (ln + nlN d) r' = some z' ∧ z'.1 = z.1 ∧ z'.2.1 = z.2.1 ∧ z'.2.2 + 2 = z.2.2 := by
  cases r with
  | nil => simp [lexU, isWs] at h
  | cons d r =>
    simp only [lexU, show isWs 92 = false from rfl, Bool.false_eq_true, if_false, if_true] at h
    obtain ⟨z', h1, h2⟩ := Option.map_eq_some_iff.mp h
    exact ⟨d, r, z', rfl, h1, by rw [← h2], by rw [← h2], by rw [← h2]⟩
theorem lexQ_end {tok : Str} {ln : Int} {r : List Nat} {z : Str × Int × Nat} (h : lexQ tok ln (34 :: r) = some z) : z = (tok, ln, 1) := by
  cases r with
  | nil => simp only [lexQ, if_true] at h; exact (Option.some.inj h).symm
  | cons d r => simp only [lexQ, if_true] at h; exact (Option.some.inj h).symm
theorem lexQ_other {tok : Str} {ln : Int} {c : Nat} {r : List Nat} {z : Str × Int × Nat} (hw : c ≠ 34) (hc : c ≠ 92) (h : lexQ tok ln (c :: r) = some z) :
    ∃ z', lexQ (tok ++ ⟨#[c]⟩) (ln + nlN c) r = some z' ∧ z'.1 = z.1 ∧ z'.2.1 = z.2.1 ∧ z'.2.2 + 1 = z.2.2 := by
  cases r with
  | nil => simp [lexQ, hw] at h
  | cons d r =>
    simp only [lexQ, if_neg hw, if_neg hc] at h
    obtain ⟨z', h1, h2⟩ := Option.map_eq_some_iff.mp h
    exact ⟨z', h1, by rw [← h2], by rw [← h2], by rw [← h2]⟩
theorem lexQ_bs {tok : Str} {ln : Int} {r : List Nat} {z : Str × Int × Nat} (h : lexQ tok ln (92 :: r) = some z) :
    ∃ d r' z', r = d :: r' ∧ lexQ (tok ++ ⟨#[d]⟩) (ln + nlN d) r' = some z' ∧ z'.1 = z.1 ∧ z'.2.1 = z.2.1 ∧ z'.2.2 + 2 = z.2.2 := by
  cases r with
  | nil => simp [lexQ] at h
  | cons d r =>
    simp only [lexQ, show ¬ (92 = 34) by decide, if_false, if_true] at h
    obtain ⟨z', h1, h2⟩ := Option.map_eq_some_iff.mp h
    exact ⟨d, r, z', rfl, h1, by rw [← h2], by rw [← h2], by rw [← h2]⟩
section
variable {w : World} {mean : ExcName → Option Value} {mg mb : Str → Option Value} {p : Program} {loose : List Str}
    {dp un : Nat} {gd : Option (List Code)} {outer : List Env} {A₀ : Around} {base h₀ : Heap} {L : Addr} {s : Shared}
    {x : LW} {items : Array Value} {ne nb : Nat} {ln : Int} {t2 ts : Tok} {q it : Addr} {tok : Str} {tt : Tok} {ch : Option Value} {z : Str × Int × Nat}
local macro_rules | `(tactic| walk_at "exec For Name Name cons nil") => `(tactic| (with_reducible refine hold_on ?_))
local macro_rules | `(tactic| walk_at "call ref") => `(tactic| ((with_reducible show wpAny _ _ (call (Value.ref 35) _) _ _ _); (with_reducible refine hold_on ?_)))
theorem loopU_ok (B : Below A₀ base outer h₀) (X : (Mine.hd.heap_39 w.params).In h₀) (T : Top p loose mean mg mb h₀) (hcd : CodeHd base 62 58) (ok : x.Ok) (hd : dp < 545) (hq : @LT.lt Nat _ x.pb q ∧ @LT.lt Nat _ q it)
    (FF : Fr h₀ L s.heap (gmap x.lx it tok tt ch)) (N : News h₀ L s.heap (getNews w x items ne ln t2 nb q it ts)) (hz : lexU tok ln (x.text.cps.toList.drop items.size) = some z) (hb : items.size ≤ 1000) (htl : tok.length ≤ items.size)
    {Q : Flow → Shared → Prop}
    (hret : ∀ h' tk' its' ne' t2' tt' ch', its'.size = items.size + z.2.2 → Fr h₀ L h' (gmap x.lx it z.1 tt' ch') → News h₀ L h' (getNews w x its' ne' z.2.1 t2' nb q it ts) → Q (.ret (.str z.1 tt')) { s with heap := h', toks := tk' }) :
    wpAny (model PySem.Challenge.rw_oc0403_01.row.prog w) (ktrTop dp un gd (Str.ofString "_netrclex.get_token") getScope L 42 (.ref 41) [] outer) (exec loopU (envOf (Str.ofString "_netrclex.get_token") getScope L 42 (.ref 41))) Q (fun _ _ => False) s := by
  have dummy : PySem.Challenge.rw_oc0403_01.prog = PySem.Challenge.rw_oc0403_01.prog ∧ Mine.hd.heap_39 = Mine.hd.heap_39 := by
    k_fill
    exact ⟨rfl, rfl⟩
  clear dummy
  have ok' := ok
  obtain ⟨h1, h2, h3, h4, hg, hn⟩ := ok'
  w_on
  conv in (occs := *) (getScope) => all_goals whnf
  conv in (loopU) => whnf
  refine ci_for (it := it) (GetInv w x h₀ L nb q it ts s (z.1, z.2.1, items.size + z.2.2) lexU) ?_ ?_ (fun _ => rfl) PassesOwn.never
  · exact ld FF rfl ⟨rfl, ⟨_, _, _, N.get (List.mem_append_right _ (.tail _ (.tail _ (.head _))))⟩, _, ⟨_, _, items, ne, ln, t2, _, _, _, z, rfl, FF, N, rfl, hz, rfl, rfl, rfl, hb, htl⟩⟩
  · rintro k s' ⟨h5, tk5, its, ne5, ln5, t25, tok5, tt5, ch5, z5, rfl, F5, N5, hk5, hz5, e1, e2, e3, hb5, htl5⟩
    change wpAny _ _ _ (OwitTurn _ _ _ _ _ _ _ _ (Lower (GetInv w x h₀ L nb q it ts s (z.1, z.2.1, items.size + z.2.2) lexU) k)) _ _
    refine next_ok (dp := dp) B F5 X N5 T hcd rfl ok hb5 (by omega) hq ?_ ?_
    · intro c r hr h6 tk6 its6 ne6 t26 tc hsz F6 N6
      rw [hr] at hz5 hk5
      dsimp only [OwitTurn]
      dsimp only [getNews, lexNews, lexDict, List.cons_append, List.nil_append] at N6
      clear F5 N5 FF N
      k_steps
      · -- a backslash: one more sign is read
        rename (_ == Str.ofString "\\") = true => hc
        rename (Builtin.Str.occurrences _ _ _ _ _).isEmpty = true => hw
        rw [ws_occ, Bool.not_eq_true'] at hw
        rw [show Str.ofString "\\" = ⟨#[92]⟩ by decide, one_beq, decide_eq_true_eq] at hc
        subst hc
        obtain ⟨d, r', z', rfl, hz', f1, f2, f3⟩ := lexU_bs hz5
        have hr' := drop_more hr
        rw [← hsz] at hr'
        have hlt := drop_lt hr'
        rename Fr _ _ _ _ => F7
        rename News _ _ _ _ => N7
        refine hold_off (wpAny_call (read_in (dp := dp) (q := q) (it := it) (ts := ts) (nb := nb) (x := x) B F7 X N7 T hcd rfl ok (by omega) (by omega) hq ?_))
        intro h8 tk8 its8 ne8 t28 tc8 hsz8 F8 N8
        rw [signAt_some hr'] at hsz8 N8 ⊢
        dsimp only [getNews, lexNews, lexDict, List.cons_append, List.nil_append] at N8
        clear F7 N7
        dsimp only
        k_steps
        rename Fr _ _ _ _ => F9
        rename News _ _ _ _ => N9
        have F9' := fr_gmap (lx := x.lx) (it := it) F9 rfl rfl rfl (fun y a b c d => by simp only [if_neg a, if_neg b, if_neg c, if_neg d])
        have hd8 : x.text.cps.toList.drop its8.size = r' := by rw [hsz8]; exact drop_more hr'
        have hsz8' : its8.size = its6.size + 1 := hsz8
        have htl9 : (tok5 ++ (⟨#[d]⟩ : Str)).length ≤ its8.size := by
          have e9 : (tok5 ++ (⟨#[d]⟩ : Str)).length = tok5.length + 1 := by rw [Str.length_append]; rfl
          omega
        rw [nl_ws hw, Int.add_zero, nlOf_one] at N9
        exact ⟨r'.length, by rw [hk5]; show r'.length < (r'.length + 1) + 1; omega, _, _, its8, _, _, _, _, _, _, z', rfl, F9', N9, by rw [hd8], by rw [hd8]; exact hz', f1.trans e1, f2.trans e2, by dsimp only at e3 ⊢; omega, by omega, htl9⟩
      · -- another sign
        rename (_ == Str.ofString "\\") = false => hc
        rename (Builtin.Str.occurrences _ _ _ _ _).isEmpty = true => hw
        rw [ws_occ, Bool.not_eq_true'] at hw
        rw [show Str.ofString "\\" = ⟨#[92]⟩ by decide, one_beq, decide_eq_false_iff_not] at hc
        obtain ⟨z', hz', f1, f2, f3⟩ := lexU_other hw hc hz5
        have hlt := drop_lt hr
        rename Fr _ _ _ _ => F9
        rename News _ _ _ _ => N9
        have F9' := fr_gmap (lx := x.lx) (it := it) F9 rfl rfl rfl (fun y a b c d => by simp only [if_neg a, if_neg b, if_neg c, if_neg d])
        have hd8 : x.text.cps.toList.drop its6.size = r := by rw [hsz]; exact drop_more hr
        have htl9 : (tok5 ++ (⟨#[c]⟩ : Str)).length ≤ its6.size := by
          have e9 : (tok5 ++ (⟨#[c]⟩ : Str)).length = tok5.length + 1 := by rw [Str.length_append]; rfl
          omega
        rw [nl_ws hw, Int.add_zero] at N9
        exact ⟨r.length, by rw [hk5]; exact Nat.lt_succ_self _, _, _, its6, _, _, _, _, _, _, z', rfl, F9', N9, by rw [hd8], by rw [hd8]; exact hz', f1.trans e1, f2.trans e2, by dsimp only at e3 ⊢; omega, by omega, htl9⟩
      · -- the word's end
        rename (Builtin.Str.occurrences _ _ _ _ _).isEmpty = false => hw
        rw [ws_occ, Bool.not_eq_false'] at hw
        have ez := lexU_ws hw hz5
        subst ez
        dsimp only at e1 e2 e3
        rename Fr _ _ _ _ => F9
        rename News _ _ _ _ => N9
        have F9' := fr_gmap (lx := x.lx) (it := it) F9 rfl rfl rfl (fun y a b c d => by simp only [if_neg a, if_neg b, if_neg c, if_neg d])
        rw [e1] at F9' ⊢
        rw [e2] at N9
        exact hret _ _ its6 _ _ _ _ (by omega) F9' N9
    · intro hr
      rw [hr] at hz5
      cases hz5
end
end Mine
end
section
open PySem PySem.W PyProof.Rows
namespace Mine
section
variable {w : World} {mean : ExcName → Option Value} {mg mb : Str → Option Value} {p : Program} {loose : List Str}
    {dp un : Nat} {gd : Option (List Code)} {outer : List Env} {A₀ : Around} {base h₀ : Heap} {L : Addr} {s : Shared}
    {x : LW} {items : Array Value} {ne nb : Nat} {ln : Int} {t2 ts : Tok} {q it : Addr} {tok : Str} {tt : Tok} {ch : Option Value} {z : Str × Int × Nat}
local macro_rules | `(tactic| walk_at "exec For Name Name cons nil") => `(tactic| (with_reducible refine hold_on ?_))
local macro_rules | `(tactic| walk_at "call ref") => `(tactic| ((with_reducible show wpAny _ _ (call (Value.ref 35) _) _ _ _); (with_reducible refine hold_on ?_)))
theorem loopQ_ok (B : Below A₀ base outer h₀) (X : (Mine.hd.heap_39 w.params).In h₀) (T : Top p loose mean mg mb h₀) (hcd : CodeHd base 62 58) (ok : x.Ok) (hd : dp < 545) (hq : @LT.lt Nat _ x.pb q ∧ @LT.lt Nat _ q it)
    (FF : Fr h₀ L s.heap (gmap x.lx it tok tt ch)) (N : News h₀ L s.heap (getNews w x items ne ln t2 nb q it ts)) (hz : lexQ tok ln (x.text.cps.toList.drop items.size) = some z) (hb : items.size ≤ 1000) (htl : tok.length ≤ items.size)
    {Q : Flow → Shared → Prop}
    (hret : ∀ h' tk' its' ne' t2' tt' ch', its'.size = items.size + z.2.2 → Fr h₀ L h' (gmap x.lx it z.1 tt' ch') → News h₀ L h' (getNews w x its' ne' z.2.1 t2' nb q it ts) → Q (.ret (.str z.1 tt')) { s with heap := h', toks := tk' }) :
    wpAny (model PySem.Challenge.rw_oc0403_01.row.prog w) (ktrTop dp un gd (Str.ofString "_netrclex.get_token") getScope L 42 (.ref 41) [] outer) (exec loopQ (envOf (Str.ofString "_netrclex.get_token") getScope L 42 (.ref 41))) Q (fun _ _ => False) s := by
  have dummy : PySem.Challenge.rw_oc0403_01.prog = PySem.Challenge.rw_oc0403_01.prog ∧ Mine.hd.heap_39 = Mine.hd.heap_39 := by
    k_fill
    exact ⟨rfl, rfl⟩
  clear dummy
  have ok' := ok
  obtain ⟨h1, h2, h3, h4, hg, hn⟩ := ok'
  w_on
  conv in (occs := *) (getScope) => all_goals whnf
  conv in (loopQ) => whnf
  refine ci_for (it := it) (GetInv w x h₀ L nb q it ts s (z.1, z.2.1, items.size + z.2.2) lexQ) ?_ ?_ (fun _ => rfl) PassesOwn.never
  · exact ld FF rfl ⟨rfl, ⟨_, _, _, N.get (List.mem_append_right _ (.tail _ (.tail _ (.head _))))⟩, _, ⟨_, _, items, ne, ln, t2, _, _, _, z, rfl, FF, N, rfl, hz, rfl, rfl, rfl, hb, htl⟩⟩
  · rintro k s' ⟨h5, tk5, its, ne5, ln5, t25, tok5, tt5, ch5, z5, rfl, F5, N5, hk5, hz5, e1, e2, e3, hb5, htl5⟩
    change wpAny _ _ _ (OwitTurn _ _ _ _ _ _ _ _ (Lower (GetInv w x h₀ L nb q it ts s (z.1, z.2.1, items.size + z.2.2) lexQ) k)) _ _
    refine next_ok (dp := dp) B F5 X N5 T hcd rfl ok hb5 (by omega) hq ?_ ?_
    · intro c r hr h6 tk6 its6 ne6 t26 tc hsz F6 N6
      rw [hr] at hz5 hk5
      dsimp only [OwitTurn]
      dsimp only [getNews, lexNews, lexDict, List.cons_append, List.nil_append] at N6
      clear F5 N5 FF N
      k_steps
      · -- the closing mark
        rename (_ == Str.ofString "\"") = true => hc
        rw [show Str.ofString "\"" = ⟨#[34]⟩ by decide, one_beq, decide_eq_true_eq] at hc
        subst hc
        have ez := lexQ_end hz5
        subst ez
        dsimp only at e1 e2 e3
        rename Fr _ _ _ _ => F9
        rename News _ _ _ _ => N9
        have F9' := fr_gmap (lx := x.lx) (it := it) F9 rfl rfl rfl (fun y a b c d => by simp only [if_neg a, if_neg b, if_neg c, if_neg d])
        rw [show nlN 34 = 0 from rfl, Int.add_zero] at N9
        rw [e1] at F9' ⊢
        rw [e2] at N9
        exact hret _ _ its6 _ _ _ _ (by omega) F9' N9
      · -- a backslash: one more sign is read
        rename (_ == Str.ofString "\\") = true => hc
        rw [show Str.ofString "\\" = ⟨#[92]⟩ by decide, one_beq, decide_eq_true_eq] at hc
        subst hc
        obtain ⟨d, r', z', rfl, hz', f1, f2, f3⟩ := lexQ_bs hz5
        have hr' := drop_more hr
        rw [← hsz] at hr'
        have hlt := drop_lt hr'
        rename Fr _ _ _ _ => F7
        rename News _ _ _ _ => N7
        refine hold_off (wpAny_call (read_in (dp := dp) (q := q) (it := it) (ts := ts) (nb := nb) (x := x) B F7 X N7 T hcd rfl ok (by omega) (by omega) hq ?_))
        intro h8 tk8 its8 ne8 t28 tc8 hsz8 F8 N8
        rw [signAt_some hr'] at hsz8 N8 ⊢
        dsimp only [getNews, lexNews, lexDict, List.cons_append, List.nil_append] at N8
        clear F7 N7
        dsimp only
        k_steps
        rename Fr _ _ _ _ => F9
        rename News _ _ _ _ => N9
        have F9' := fr_gmap (lx := x.lx) (it := it) F9 rfl rfl rfl (fun y a b c d => by simp only [if_neg a, if_neg b, if_neg c, if_neg d])
        have hd8 : x.text.cps.toList.drop its8.size = r' := by rw [hsz8]; exact drop_more hr'
        have hsz8' : its8.size = its6.size + 1 := hsz8
        have htl9 : (tok5 ++ (⟨#[d]⟩ : Str)).length ≤ its8.size := by
          have e9 : (tok5 ++ (⟨#[d]⟩ : Str)).length = tok5.length + 1 := by rw [Str.length_append]; rfl
          omega
        rw [show nlN 92 = 0 from rfl, Int.add_zero, nlOf_one] at N9
        exact ⟨r'.length, by rw [hk5]; show r'.length < (r'.length + 1) + 1; omega, _, _, its8, _, _, _, _, _, _, z', rfl, F9', N9, by rw [hd8], by rw [hd8]; exact hz', f1.trans e1, f2.trans e2, by dsimp only at e3 ⊢; omega, by omega, htl9⟩
      · -- another sign
        rename (_ == Str.ofString "\\") = false => hc
        rename (_ == Str.ofString "\"") = false => hw
        rw [show Str.ofString "\"" = ⟨#[34]⟩ by decide, one_beq, decide_eq_false_iff_not] at hw
        rw [show Str.ofString "\\" = ⟨#[92]⟩ by decide, one_beq, decide_eq_false_iff_not] at hc
        obtain ⟨z', hz', f1, f2, f3⟩ := lexQ_other hw hc hz5
        have hlt := drop_lt hr
        rename Fr _ _ _ _ => F9
        rename News _ _ _ _ => N9
        have F9' := fr_gmap (lx := x.lx) (it := it) F9 rfl rfl rfl (fun y a b c d => by simp only [if_neg a, if_neg b, if_neg c, if_neg d])
        have hd8 : x.text.cps.toList.drop its6.size = r := by rw [hsz]; exact drop_more hr
        have htl9 : (tok5 ++ (⟨#[c]⟩ : Str)).length ≤ its6.size := by
          have e9 : (tok5 ++ (⟨#[c]⟩ : Str)).length = tok5.length + 1 := by rw [Str.length_append]; rfl
          omega
        exact ⟨r.length, by rw [hk5]; exact Nat.lt_succ_self _, _, _, its6, _, _, _, _, _, _, z', rfl, F9', N9, by rw [hd8], by rw [hd8]; exact hz', f1.trans e1, f2.trans e2, by dsimp only at e3 ⊢; omega, by omega, htl9⟩
    · intro hr
      rw [hr] at hz5
      cases hz5
end
end Mine
end
section
open PySem PySem.W PyProof.Rows
namespace Mine
theorem lexO_ws {ln : Int} {c : Nat} {r : List Nat} {z : Str × Int × Nat} (hw : isWs c = true) (h : lexO ln (c :: r) = some z) :
    ∃ z', lexO (ln + nlN c) r = some z' ∧ z'.1 = z.1 ∧ z'.2.1 = z.2.1 ∧ z'.2.2 + 1 = z.2.2 := by
  simp only [lexO, hw, if_true] at h
  obtain ⟨z', h1, h2⟩ := Option.map_eq_some_iff.mp h
  exact ⟨z', h1, by rw [← h2], by rw [← h2], by rw [← h2]⟩
theorem lexO_mark {ln : Int} {r : List Nat} {z : Str × Int × Nat} (h : lexO ln (34 :: r) = some z) :
    ∃ z', lexQ (Str.ofString "") ln r = some z' ∧ z'.1 = z.1 ∧ z'.2.1 = z.2.1 ∧ z'.2.2 + 1 = z.2.2 := by
  simp only [lexO, show isWs 34 = false from rfl, Bool.false_eq_true, if_false, if_true] at h
  obtain ⟨z', h1, h2⟩ := Option.map_eq_some_iff.mp h
  exact ⟨z', h1, by rw [← h2], by rw [← h2], by rw [← h2]⟩
theorem lexO_bs {ln : Int} {r : List Nat} {z : Str × Int × Nat} (h : lexO ln (92 :: r) = some z) :
    ∃ d r' z', r = d :: r' ∧ lexU (Str.ofString "" ++ ⟨#[d]⟩) (ln + nlN d) r' = some z' ∧ z'.1 = z.1 ∧ z'.2.1 = z.2.1 ∧ z'.2.2 + 2 = z.2.2 := by
  simp only [lexO, show isWs 92 = false from rfl, Bool.false_eq_true, if_false, show ¬ (92 = 34) by decide, if_true] at h
  cases r with
  | nil => cases h
  | cons d r' =>
    obtain ⟨z', h1, h2⟩ := Option.map_eq_some_iff.mp h
    exact ⟨d, r', z', rfl, h1, by rw [← h2], by rw [← h2], by rw [← h2]⟩
theorem lexO_other {ln : Int} {c : Nat} {r : List Nat} {z : Str × Int × Nat} (hw : isWs c = false) (h1 : c ≠ 34) (h2 : c ≠ 92) (h : lexO ln (c :: r) = some z) :
    ∃ z', lexU (Str.ofString "" ++ ⟨#[c]⟩) ln r = some z' ∧ z'.1 = z.1 ∧ z'.2.1 = z.2.1 ∧ z'.2.2 + 1 = z.2.2 := by
  simp only [lexO, hw, Bool.false_eq_true, if_false, if_neg h1, if_neg h2] at h
  obtain ⟨z', h1, h2⟩ := Option.map_eq_some_iff.mp h
  exact ⟨z', h1, by rw [← h2], by rw [← h2], by rw [← h2]⟩
local macro_rules | `(tactic| k_room) => `(tactic| ((try simp only [depth_under_make, depth_under_kw, depth_in1, depth_deeper, depth_caller] at *); (try dsimp only [ktrTop] at *); (simp only [recursionLimit] at *); omega))
local macro_rules | `(tactic| walk_at "mine enter") => `(tactic| (refine' code_kept ?k1 ?k2 ?k3 ?k4 ?k5 ?kA ?kF ?kK ?k6 ?k7 ?k8 ?k9 ?kB ?_ ?c2 ?c3 ?c4 ?c5; (case kA => exact rfl); (case kF => exact rfl); (case kK => first | exact rfl | assumption); (case k1 => k_asm); (case k2 => k_asm); (case k3 => k_asm); (case k4 => k_asm); (case k5 => k_asm); (case k6 => k_is); (case k7 => k_is); (case k8 => k_room); (case k9 => exact BindsTo.of_eq rfl); (case c5 => decide); (case kB => exact locs rfl); (case c2 => exact rfl); (case c3 => exact rfl); (case c4 => exact rfl)))
local macro_rules | `(tactic| walk_at "call builtin:iter") => `(tactic| (k_here; (show wpAny _ _ (call (Value.builtin "iter") [Value.ref _, Value.str _ _]) _ _ _); k_dflt (refine' iter2_K ?k1 ?k2 ?k3 ?_; (case k1 => k_asm); (case k2 => k_asm); (case k3 => k_mem); k_whole); intro it' h' F' N' l1; (try k_lt l1); (try k_sweep)))
local macro_rules | `(tactic| walk_at "exec For Name Name cons nil") => `(tactic| (with_reducible refine hold_on ?_))
local macro_rules | `(tactic| walk_at "call ref") => `(tactic| ((with_reducible show wpAny _ _ (call (Value.ref 35) _) _ _ _); (with_reducible refine hold_on ?_)))
theorem get_ok {w : World} {mean : ExcName → Option Value} {mg mb : Str → Option Value} {p : Program} {loose : List Str}
    {dp un : Nat} {gd : Option (List Code)} {cn : Str} {cs : Scope} {a : Addr} {ccd : Value} {cl : List (Str × Addr)} {outer : List Env} {A₀ : Around} {base h₀ : Heap} {L : Addr} {m : Str → Option Value} {s : Shared}
    {x : LW} {items : Array Value} {ne nb : Nat} {ln : Int} {t2 : Tok} {R : Result → Shared → Prop} {fin : Str × Int × Nat}
    (B : Below A₀ base outer h₀) (FF : Fr h₀ L s.heap m) (X : (Mine.hd.heap_39 w.params).In h₀) (N : News h₀ L s.heap (lexNews w x items ne ln t2 ++ [(x.pb, listOf #[] nb)]))
    (T : Top p loose mean mg mb h₀) (hcd : CodeHd base 62 58) (hk : cs.kind = .function) (ok : x.Ok) (hit : items.size ≤ x.text.length) (hd : dp < 540)
    (hlex : lexO ln (x.text.cps.toList.drop items.size) = some fin)
    (hret : ∀ h' tk' its' ne' t2' tt, its'.size = items.size + fin.2.2 → Fr h₀ L h' m → News h₀ L h' (lexNews w x its' ne' fin.2.1 t2' ++ [(x.pb, listOf #[] nb)]) → Kept s.heap (lexNews w x items ne ln t2 ++ [(x.pb, listOf #[] nb)]) h' →
      R (.ok (.ret (.str fin.1 tt))) { s with heap := h', toks := tk' }) :
    codeAny (model PySem.Challenge.rw_oc0403_01.row.prog w) (ktrTop dp un gd cn cs L a ccd cl outer) (.call (.ref 42) ⟨[.ref x.lx], []⟩) R s := by
  have dummy : PySem.Challenge.rw_oc0403_01.prog = PySem.Challenge.rw_oc0403_01.prog ∧ Mine.hd.heap_39 = Mine.hd.heap_39 := by
    k_fill
    exact ⟨rfl, rfl⟩
  clear dummy
  have ok' := ok
  obtain ⟨h1, h2, h3, h4, hg, hn⟩ := ok'
  w_on
  k_dflt walk_at "mine enter"
  intro g' L' h' KG' FG' F' N' B' X' T' l1
  clear l1
  dsimp only
  dsimp only [lexNews, lexDict, List.cons_append, List.nil_append] at N'
  refine wpAny_noRaise ?_
  k_fold
  k_steps
  rename News _ _ _ _ => NN
  rename Fr _ _ _ _ => FN
  (try dsimp only at NN FN)
  rename_i q hq0 lq it hi0 li hN
  have hq : @LT.lt Nat _ x.pb q ∧ @LT.lt Nat _ q it := by omega
  have F0 : Fr g' L' hN (gmap x.lx it (Str.ofString "") tk none) := fr_gmap FN rfl rfl rfl (fun y e1 e2 e3 e4 => by
    rw [if_neg e3, if_neg e2]
    show (match y == Str.ofString "self" with | true => some (Value.ref x.lx) | false => none) = none
    rw [beq_eq_false_iff_ne.mpr e4])
  have N0 : News g' L' hN (getNews w x items ne ln t2 nb q it (tk + 1 + 1 + 1)) := nsub NN (by dsimp only [getNews, lexNews, lexDict, List.cons_append, List.nil_append]; k_allIn)
  clear NN FN
  refine hold_off (ci_for (it := it) (GetInv w x g' L' nb q it (tk + 1 + 1 + 1) s (fin.1, fin.2.1, items.size + fin.2.2) (fun tok ln r => if tok = Str.ofString "" then lexO ln r else none)) ?_ ?_ (fun _ => rfl) PassesOwn.never)
  · exact ld F0 rfl ⟨rfl, ⟨_, _, _, N0.get (List.mem_append_right _ (.tail _ (.tail _ (.head _))))⟩, _, ⟨_, _, items, ne, ln, t2, _, _, none, fin, rfl, F0, N0, rfl, (if_pos rfl).trans hlex, rfl, rfl, rfl, by omega, Nat.zero_le _⟩⟩
  · rintro k s' ⟨h5, tk5, its, ne5, ln5, t25, tok, tt, ch, z, rfl, F5, N5, hk5, hz, e1, e2, e3, hb, htl⟩
    dsimp only at hz
    change wpAny _ _ _ (OwitTurn _ _ _ _ _ _ _ _ (Lower (GetInv w x g' L' nb q it (tk + 1 + 1 + 1) s (fin.1, fin.2.1, items.size + fin.2.2) (fun tok ln r => if tok = Str.ofString "" then lexO ln r else none)) k)) _ _
    split at hz
    · rename_i htok
      subst htok
      clear F0 N0
      refine next_ok (dp := dp + 1) B' F5 X' N5 T' hcd rfl ok hb (by omega) hq ?_ ?_
      · intro c r hr h6 tk6 its6 ne6 t26 tc hsz F6 N6
        rw [hr] at hz hk5
        dsimp only [OwitTurn]
        dsimp only [getNews, lexNews, lexDict, List.cons_append, List.nil_append] at N6
        clear F5 N5
        have hlt := drop_lt hr
        dsimp only at e1 e2 e3
        k_steps
        · -- a quotation mark
          rename (_ == Str.ofString "\"") = true => hc
          rw [show Str.ofString "\"" = ⟨#[34]⟩ by decide, one_beq, decide_eq_true_eq] at hc
          subst hc
          obtain ⟨z', hz', f1, f2, f3⟩ := lexO_mark hz
          rename Fr _ _ _ _ => F9
          rename News _ _ _ _ => N9
          have F9' := fr_gmap (lx := x.lx) (it := it) F9 rfl rfl rfl (fun y a b c d => by simp only [if_neg a, if_neg b, if_neg c, if_neg d])
          rw [show nlN 34 = 0 from rfl, Int.add_zero] at N9
          have hd8 : x.text.cps.toList.drop its6.size = r := by rw [hsz]; exact drop_more hr
          refine hold_off ?_
          with_unfolding_all refine loopQ_ok (dp := dp + 1) (x := x) (nb := nb) (q := q) (it := it) B' X' T' hcd ok (by omega) hq F9' N9 (by rw [hd8]; exact hz') (by omega) (Nat.zero_le _) ?_
          intro h10 tk10 its10 ne10 t10 tt10 ch10 hsz10 F10 N10
          clear F9 N9 F9'
          dsimp only [getNews, lexNews, lexDict, List.cons_append, List.nil_append] at N10
          k_steps
          rename Fr h₀ L _ _ => FE
          rename News h₀ L _ _ => NE
          rw [f2.trans e2] at NE
          rw [f1.trans e1]
          exact hret _ _ its10 _ _ _ (by omega) FE (nsub NE (by dsimp only [lexNews, lexDict, List.cons_append, List.nil_append]; k_allIn)) (KG'.fr F10)
        · -- a backslash
          rename (_ == Str.ofString "\\") = true => hc
          rw [show Str.ofString "\\" = ⟨#[92]⟩ by decide, one_beq, decide_eq_true_eq] at hc
          subst hc
          obtain ⟨d, r', z', rfl, hz', f1, f2, f3⟩ := lexO_bs hz
          have hr' := drop_more hr
          rw [← hsz] at hr'
          have hlt' := drop_lt hr'
          rename Fr _ _ _ _ => F7
          rename News _ _ _ _ => N7
          refine hold_off (wpAny_call (read_in (dp := dp + 1) (q := q) (it := it) (nb := nb) (x := x) B' F7 X' N7 T' hcd rfl ok (by omega) (by omega) hq ?_))
          intro h8 tk8 its8 ne8 t28 tc8 hsz8 F8 N8
          rw [signAt_some hr'] at hsz8 N8 ⊢
          dsimp only [getNews, lexNews, lexDict, List.cons_append, List.nil_append] at N8
          clear F7 N7
          dsimp only
          k_steps
          rename Fr _ _ _ _ => F9
          rename News _ _ _ _ => N9
          have F9' := fr_gmap (lx := x.lx) (it := it) F9 rfl rfl rfl (fun y a b c d => by simp only [if_neg a, if_neg b, if_neg c, if_neg d])
          rw [show nlN 92 = 0 from rfl, Int.add_zero, nlOf_one] at N9
          have hd8 : x.text.cps.toList.drop its8.size = r' := by rw [hsz8]; exact drop_more hr'
          have hsz8' : its8.size = its6.size + 1 := hsz8
          have e9 : (Str.ofString "" ++ (⟨#[d]⟩ : Str)).length = 1 := by rw [Str.length_append]; rfl
          refine hold_off ?_
          with_unfolding_all refine loopU_ok (dp := dp + 1) (x := x) (nb := nb) (q := q) (it := it) B' X' T' hcd ok (by omega) hq F9' N9 (by rw [hd8]; exact hz') (by omega) (by rw [e9]; omega) ?_
          intro h10 tk10 its10 ne10 t10 tt10 ch10 hsz10 F10 N10
          clear F9 N9 F9'
          dsimp only [getNews, lexNews, lexDict, List.cons_append, List.nil_append] at N10
          k_steps
          rename Fr h₀ L _ _ => FE
          rename News h₀ L _ _ => NE
          rw [f2.trans e2] at NE
          rw [f1.trans e1]
          exact hret _ _ its10 _ _ _ (by omega) FE (nsub NE (by dsimp only [lexNews, lexDict, List.cons_append, List.nil_append]; k_allIn)) (KG'.fr F10)
        · -- a bare word's first sign
          rename (_ == Str.ofString "\\") = false => hc
          rename (_ == Str.ofString "\"") = false => hw
          rename (Builtin.Str.occurrences _ _ _ _ _).isEmpty = true => hv
          rw [ws_occ, Bool.not_eq_true'] at hv
          rw [show Str.ofString "\"" = ⟨#[34]⟩ by decide, one_beq, decide_eq_false_iff_not] at hw
          rw [show Str.ofString "\\" = ⟨#[92]⟩ by decide, one_beq, decide_eq_false_iff_not] at hc
          obtain ⟨z', hz', f1, f2, f3⟩ := lexO_other hv hw hc hz
          rename Fr _ _ _ _ => F9
          rename News _ _ _ _ => N9
          have F9' := fr_gmap (lx := x.lx) (it := it) F9 rfl rfl rfl (fun y a b c d => by simp only [if_neg a, if_neg b, if_neg c, if_neg d])
          rw [nl_ws hv, Int.add_zero] at N9
          have hd8 : x.text.cps.toList.drop its6.size = r := by rw [hsz]; exact drop_more hr
          have e9 : (Str.ofString "" ++ (⟨#[c]⟩ : Str)).length = 1 := by rw [Str.length_append]; rfl
          refine hold_off ?_
          with_unfolding_all refine loopU_ok (dp := dp + 1) (x := x) (nb := nb) (q := q) (it := it) B' X' T' hcd ok (by omega) hq F9' N9 (by rw [hd8]; exact hz') (by omega) (by rw [e9]; omega) ?_
          intro h10 tk10 its10 ne10 t10 tt10 ch10 hsz10 F10 N10
          clear F9 N9 F9'
          dsimp only [getNews, lexNews, lexDict, List.cons_append, List.nil_append] at N10
          k_steps
          rename Fr h₀ L _ _ => FE
          rename News h₀ L _ _ => NE
          rw [f2.trans e2] at NE
          rw [f1.trans e1]
          exact hret _ _ its10 _ _ _ (by omega) FE (nsub NE (by dsimp only [lexNews, lexDict, List.cons_append, List.nil_append]; k_allIn)) (KG'.fr F10)
        · -- a blank
          rename (Builtin.Str.occurrences _ _ _ _ _).isEmpty = false => hv
          rw [ws_occ, Bool.not_eq_false'] at hv
          obtain ⟨z', hz', f1, f2, f3⟩ := lexO_ws hv hz
          rename Fr _ _ _ _ => F9
          rename News _ _ _ _ => N9
          have F9' := fr_gmap (lx := x.lx) (it := it) F9 rfl rfl rfl (fun y a b c d => by simp only [if_neg a, if_neg b, if_neg c, if_neg d])
          have hd8 : x.text.cps.toList.drop its6.size = r := by rw [hsz]; exact drop_more hr
          exact ⟨r.length, by rw [hk5]; exact Nat.lt_succ_self _, _, _, its6, _, _, _, _, _, _, z', rfl, F9', N9, by rw [hd8], by rw [hd8]; exact (if_pos rfl).trans hz', f1.trans e1, f2.trans e2, by dsimp only; omega, by omega, Nat.zero_le _⟩
      · -- the text's end
        intro hr h6 tk6 its6 ne6 t26 hsz F6 N6
        rw [hr] at hz
        have ez : (Str.ofString "", ln5, 0) = z := Option.some.inj hz
        subst ez
        dsimp only at e1 e2 e3
        dsimp only [OwitTurn]
        dsimp only [lexNews, lexDict, List.cons_append, List.nil_append] at N6
        clear F5 N5
        k_steps
        rename Fr h₀ L _ _ => FE
        rename News h₀ L _ _ => NE
        rw [e2] at NE
        rw [e1]
        exact hret _ _ its6 _ _ _ (by omega) FE (nsub NE (by dsimp only [lexNews, lexDict, List.cons_append, List.nil_append]; k_allIn)) (KG'.fr F6)
    · cases hz
end Mine
end
section
open PySem PySem.W PyProof.Rows
namespace Mine
/-- the lexer with its line of words -/
abbrev pbNews (w : World) (x : LW) (vs : List Value) (nb : Nat) (ln : Int) (t2 : Tok) : List (Addr × Obj) :=
  [(x.pb, listOf vs.toArray nb), (x.dlx, lexDict w x ln t2), (x.lx, instObj 52 x.dlx)]
theorem pop0_K {prog : Program} {w : World} {A : Around} {E : Value → Shared → Prop} {s : Shared} {h₀ : Heap} {L D : Addr} {m : Str → Option Value} {news news' : List (Addr × Obj)} {v : Value} {vs : List Value} {n : Nat} {u : Tok} {Q : Value → Shared → Prop}
    (FF : Fr h₀ L s.heap m) (N : News h₀ L s.heap news) (U : Upd D (listOf (v :: vs).toArray n) (listOf vs.toArray (n + 1)) news news') (hz : vs.length ≤ 10000)
    (h : ∀ h', Fr h₀ L h' m → News h₀ L h' news' → Q v { s with heap := h' }) : wpAny (model prog w) A (call (.builtin "list.pop") [.ref D, .int 0 u]) Q E s :=
  kl_popAt (k := 0) (p := []) (q := vs) (y := v) FF N rfl (by unfold seqIndex?; simp) rfl U (by
    have : sizeLine = 16777216 := by decide
    show (v :: vs).length ≤ sizeLine
    rw [List.length_cons]; omega) h
theorem app_K {prog : Program} {w : World} {A : Around} {E : Value → Shared → Prop} {s : Shared} {h₀ : Heap} {L D : Addr} {m : Str → Option Value} {news news' : List (Addr × Obj)} {v : Value} {vs : List Value} {n : Nat} {Q : Value → Shared → Prop}
    (FF : Fr h₀ L s.heap m) (N : News h₀ L s.heap news) (U : Upd D (listOf vs.toArray n) (listOf (vs ++ [v]).toArray (n + 1)) news news') (hz : vs.length ≤ 10000)
    (h : ∀ h', Fr h₀ L h' m → News h₀ L h' news' → Q .none { s with heap := h' }) : wpAny (model prog w) A (call (.builtin "list.append") [.ref D, v]) Q E s :=
  append_K FF N (by rw [List.push_toArray]; exact U) h (by
    have : sizeLine = 16777216 := by decide
    rw [List.size_toArray]; omega)
section
variable {w : World} {mean : ExcName → Option Value} {mg mb : Str → Option Value} {p : Program} {loose : List Str}
    {dp un : Nat} {gd : Option (List Code)} {cn : Str} {cs : Scope} {a : Addr} {ccd : Value} {cl : List (Str × Addr)} {outer : List Env} {A₀ : Around} {base h₀ : Heap} {L : Addr} {m : Str → Option Value} {s : Shared}
    {x : LW} {nb : Nat} {ln : Int} {t2 : Tok} {v : Value} {vs : List Value} {R : Result → Shared → Prop}
local macro_rules | `(tactic| k_room) => `(tactic| ((try simp only [depth_under_make, depth_under_kw, depth_in1, depth_deeper, depth_caller] at *); (try dsimp only [ktrTop] at *); (simp only [recursionLimit] at *); omega))
local macro_rules | `(tactic| walk_at "mine enter") => `(tactic| (refine' code_kept ?k1 ?k2 ?k3 ?k4 ?k5 ?kA ?kF ?kK ?k6 ?k7 ?k8 ?k9 ?kB ?_ ?c2 ?c3 ?c4 ?c5; (case kA => exact rfl); (case kF => exact rfl); (case kK => first | exact rfl | assumption); (case k1 => k_asm); (case k2 => k_asm); (case k3 => k_asm); (case k4 => k_asm); (case k5 => k_asm); (case k6 => k_is); (case k7 => k_is); (case k8 => k_room); (case k9 => exact BindsTo.of_eq rfl); (case c5 => decide); (case kB => exact locs rfl); (case c2 => exact rfl); (case c3 => exact rfl); (case c4 => exact rfl)))
local macro_rules | `(tactic| walk_at "call builtin:list.pop") => `(tactic| (k_here; (show wpAny _ _ (call (Value.builtin "list.pop") [Value.ref _, Value.int 0 _]) _ _ _); k_dflt (refine' pop0_K ?F ?N ?U ?z ?_; (case F => k_asm); (case N => k_asm); (case U => k_upd); (case z => omega)); intro h' F' N'; (try dsimp only at N'); (try k_sweep)))
local macro_rules | `(tactic| walk_at "call builtin:list.append") => `(tactic| (k_here; (show wpAny _ _ (call (Value.builtin "list.append") [Value.ref _, _]) _ _ _); k_dflt (refine' app_K ?F ?N ?U ?z ?_; (case F => k_asm); (case N => k_asm); (case U => k_upd); (case z => omega)); intro h' F' N'; (try dsimp only at N'); (try k_sweep)))
theorem pop_ok (B : Below A₀ base outer h₀) (FF : Fr h₀ L s.heap m) (X : (Mine.hd.heap_39 w.params).In h₀) (N : News h₀ L s.heap (pbNews w x (v :: vs) nb ln t2))
    (T : Top p loose mean mg mb h₀) (hk : cs.kind = .function) (hg : @LT.lt Nat _ x.dlx x.lx ∧ @LT.lt Nat _ x.lx x.pb) (hd : dp < 540) (hz : vs.length ≤ 1000)
    (hret : ∀ h' tk', Fr h₀ L h' m → News h₀ L h' (pbNews w x vs (nb + 1) ln t2) → Kept s.heap (pbNews w x (v :: vs) nb ln t2) h' → R (.ok (.ret v)) { s with heap := h', toks := tk' }) :
    codeAny (model PySem.Challenge.rw_oc0403_01.row.prog w) (ktrTop dp un gd cn cs L a ccd cl outer) (.call (.ref 42) ⟨[.ref x.lx], []⟩) R s := by
  have dummy : PySem.Challenge.rw_oc0403_01.prog = PySem.Challenge.rw_oc0403_01.prog ∧ Mine.hd.heap_39 = Mine.hd.heap_39 := by
    k_fill
    exact ⟨rfl, rfl⟩
  clear dummy
  w_on
  k_dflt walk_at "mine enter"
  intro g' L' h' KG' FG' F' N' B' X' T' l1
  clear l1
  dsimp only
  dsimp only [pbNews, lexDict] at N'
  k_fold
  k_steps
  rename Fr h₀ L _ _ => FE
  rename News h₀ L _ _ => NE
  rename Fr g' L' _ _ => FI
  exact hret _ _ FE NE (KG'.fr FI)
theorem push_ok (B : Below A₀ base outer h₀) (FF : Fr h₀ L s.heap m) (X : (Mine.hd.heap_39 w.params).In h₀) (N : News h₀ L s.heap (pbNews w x vs nb ln t2))
    (T : Top p loose mean mg mb h₀) (hk : cs.kind = .function) (hg : @LT.lt Nat _ x.dlx x.lx ∧ @LT.lt Nat _ x.lx x.pb) (hd : dp < 540) (hz : vs.length ≤ 1000)
    (hret : ∀ h' tk', Fr h₀ L h' m → News h₀ L h' (pbNews w x (vs ++ [v]) (nb + 1) ln t2) → Kept s.heap (pbNews w x vs nb ln t2) h' → R (.ok (.ret .none)) { s with heap := h', toks := tk' }) :
    codeAny (model PySem.Challenge.rw_oc0403_01.row.prog w) (ktrTop dp un gd cn cs L a ccd cl outer) (.call (.ref 49) ⟨[.ref x.lx, v], []⟩) R s := by
  have dummy : PySem.Challenge.rw_oc0403_01.prog = PySem.Challenge.rw_oc0403_01.prog ∧ Mine.hd.heap_39 = Mine.hd.heap_39 := by
    k_fill
    exact ⟨rfl, rfl⟩
  clear dummy
  have hline : sizeLine = 16777216 := by decide
  w_on
  k_dflt walk_at "mine enter"
  intro g' L' h' KG' FG' F' N' B' X' T' l1
  clear l1
  dsimp only
  dsimp only [pbNews, lexDict] at N'
  k_fold
  k_steps
  rename Fr h₀ L _ _ => FE
  rename News h₀ L _ _ => NE
  rename Fr g' L' _ _ => FI
  exact hret _ _ FE NE (KG'.fr FI)
/-- the ledger behind a change of the one list -/
theorem news_line {h₀ h h' : Heap} {L : Addr} {news news' : List (Addr × Obj)} {us us' : List Value} {nb nb' : Nat} (N : News h₀ L h news) (hs : ∀ p ∈ pbNews w x us nb ln t2, p ∈ news)
    (U : Upd x.pb (listOf us.toArray nb) (listOf us'.toArray nb') news news') (N' : News h₀ L h' (pbNews w x us' nb' ln t2)) (k : Kept h (pbNews w x us nb ln t2) h') : News h₀ L h' news' := by
  obtain ⟨pre, post, e1, e2, a, b⟩ := U.split
  have old : ∀ p ∈ news, p.1 ≠ x.pb → h'.get? p.1 = some p.2 ∧ p.1 ≠ L ∧ h₀.get? p.1 = none := by
    intro p hp hne
    refine ⟨?_, (N p hp).2⟩
    by_cases e3 : p.1 = x.dlx
    · have q1 := (N p hp).1
      have q2 := (N _ (hs (x.dlx, lexDict w x ln t2) (.tail _ (.head _)))).1
      have q3 := (N' (x.dlx, lexDict w x ln t2) (.tail _ (.head _))).1
      dsimp only at q2 q3
      rw [e3] at q1 ⊢
      rw [q2] at q1
      rw [q3, Option.some.inj q1]
    by_cases e4 : p.1 = x.lx
    · have q1 := (N p hp).1
      have q2 := (N _ (hs (x.lx, instObj 52 x.dlx) (.tail _ (.tail _ (.head _))))).1
      have q3 := (N' (x.lx, instObj 52 x.dlx) (.tail _ (.tail _ (.head _)))).1
      dsimp only at q2 q3
      rw [e4] at q1 ⊢
      rw [q2] at q1
      rw [q3, Option.some.inj q1]
    refine k _ _ (N p hp).1 fun hm => ?_
    simp only [pbNews, List.map_cons, List.map_nil, List.mem_cons, List.not_mem_nil, or_false] at hm
    rcases hm with q | q | q
    · exact hne q
    · exact e3 q
    · exact e4 q
  intro p hp
  rw [e2] at hp
  rcases List.mem_append.mp hp with q | q
  · exact old p (by rw [e1]; exact List.mem_append_left _ q) (a p q)
  · rcases List.mem_cons.mp q with rfl | q
    · exact N' _ (.head _)
    · exact old p (by rw [e1]; exact List.mem_append_right _ (.tail _ q)) (b p q)
variable {news news' : List (Addr × Obj)} {Q E : Value → Shared → Prop}
theorem pop_in (B : Below A₀ base outer h₀) (FF : Fr h₀ L s.heap m) (X : (Mine.hd.heap_39 w.params).In h₀) (N : News h₀ L s.heap news) (T : Top p loose mean mg mb h₀) (hk : cs.kind = .function)
    (U : Upd x.pb (listOf (v :: vs).toArray nb) (listOf vs.toArray (nb + 1)) news news') (hs : ∀ p ∈ pbNews w x (v :: vs) nb ln t2, p ∈ news)
    (hg : @LT.lt Nat _ x.dlx x.lx ∧ @LT.lt Nat _ x.lx x.pb) (hd : dp < 540) (hz : vs.length ≤ 1000)
    (h : ∀ h' tk', Fr h₀ L h' m → News h₀ L h' news' → Q v { s with heap := h', toks := tk' }) :
    wpAny (model PySem.Challenge.rw_oc0403_01.row.prog w) (ktrTop dp un gd cn cs L a ccd cl outer) (call (.ref 42) [.ref x.lx]) Q E s :=
  wpAny_call (pop_ok B FF X (nsub N hs) T hk hg hd hz fun h' tk' F' N' k => h h' tk' F' (news_line N hs U N' k))
theorem push_in (B : Below A₀ base outer h₀) (FF : Fr h₀ L s.heap m) (X : (Mine.hd.heap_39 w.params).In h₀) (N : News h₀ L s.heap news) (T : Top p loose mean mg mb h₀) (hk : cs.kind = .function)
    (U : Upd x.pb (listOf vs.toArray nb) (listOf (vs ++ [v]).toArray (nb + 1)) news news') (hs : ∀ p ∈ pbNews w x vs nb ln t2, p ∈ news)
    (hg : @LT.lt Nat _ x.dlx x.lx ∧ @LT.lt Nat _ x.lx x.pb) (hd : dp < 540) (hz : vs.length ≤ 1000)
    (h : ∀ h' tk', Fr h₀ L h' m → News h₀ L h' news' → Q .none { s with heap := h', toks := tk' }) :
    wpAny (model PySem.Challenge.rw_oc0403_01.row.prog w) (ktrTop dp un gd cn cs L a ccd cl outer) (call (.ref 49) [.ref x.lx, v]) Q E s :=
  wpAny_call (push_ok B FF X (nsub N hs) T hk hg hd hz fun h' tk' F' N' k => h h' tk' F' (news_line N hs U N' k))
end
end Mine
end
section
open PySem PySem.W PyProof.Rows
set_option linter.unusedSimpArgs false
namespace Mine
/-- what a word stands for -/
def tagRule (a b c f : Str) : List Str := if f = a then [b, c] else if f = b then [a] else [a, a, a]
/-- the lines of the run -/
def tagRun (a b c : Str) : Nat → List Str → List Str
  | n + 1, f :: _ :: r => Txt.join (Str.ofString "") (r ++ tagRule a b c f) :: tagRun a b c n (r ++ tagRule a b c f)
  | _, _ => []
section
variable {prog : Program} {w : World} {A : Around} {E : Value → Shared → Prop} {Q : Flow → Shared → Prop} {s : Shared} {env : Env} {h₀ : Heap} {L : Addr}
theorem while_from {test : PySem.Expr} {body : List Stmt} {pos : Pos} {m : Str → Option Value} {news : List (Addr × Obj)} (J : (Str → Option Value) → Nat → (Str → Option Value) → List (Addr × Obj) → Prop) {n₀ : Nat}
    (FF : Fr h₀ L s.heap m) (N : News h₀ L s.heap news) (hJ : J m n₀ m news)
    (turn : ∀ n m₁ news₁ h₁ tk₁, Fr h₀ L h₁ m₁ → News h₀ L h₁ news₁ → J m n m₁ news₁ →
      wpAny (model prog w) A (isTrue test env (eval test env)) (fun b s₂ =>
        if b = true then wpAny (model prog w) A (execs body env) (WhileStep h₀ L s (J m) n) E s₂ else Q .next s₂) E { s with heap := h₁, toks := tk₁ })
    (hE : PassesOwn (model prog w) A env E) :
    wpAny (model prog w) A (exec (.While test body [] pos) env) Q E s := While_inv (J m) FF N hJ turn hE
theorem fr_over2 {M0 m : Str → Option Value} {h : Heap} (k1 k2 : Str) (FF : Fr h₀ L h m) (hs : ∀ y, y ≠ k1 → y ≠ k2 → m y = M0 y) : Fr h₀ L h (fun y => if y = k1 then m k1 else if y = k2 then m k2 else M0 y) :=
  frext FF fun y => by
    by_cases e1 : y = k1
    · subst e1; rw [if_pos rfl]
    by_cases e2 : y = k2
    · subst e2; rw [if_neg e1, if_pos rfl]
    rw [if_neg e1, if_neg e2]
    exact hs y e1 e2
theorem over2_self (M0 : Str → Option Value) (k1 k2 : Str) : M0 = (fun y => if y = k1 then M0 k1 else if y = k2 then M0 k2 else M0 y) := by
  funext y
  by_cases e1 : y = k1
  · subst e1; rw [if_pos rfl]
  by_cases e2 : y = k2
  · subst e2; rw [if_neg e1, if_pos rfl]
  rw [if_neg e1, if_neg e2]
end
theorem strs_len {vs : List Value} {ws : List Str} (h : StrsAre vs ws) : vs.length = ws.length := by
  induction h with
  | nil => rfl
  | cons _ _ _ ih => rw [List.length_cons, List.length_cons, ih]
theorem strs_app {vs vs' : List Value} {ws ws' : List Str} (h : StrsAre vs ws) (h' : StrsAre vs' ws') : StrsAre (vs ++ vs') (ws ++ ws') := by
  induction h with
  | nil => exact h'
  | cons y t _ ih => exact .cons y t ih
theorem sum_one : ∀ {l : List Str}, (∀ y ∈ l, y.length = 1) → (l.map (·.length)).sum = l.length
  | [], _ => rfl
  | y :: l, h => by
    rw [List.map_cons, List.sum_cons, List.length_cons, sum_one (fun z hz => h z (.tail _ hz)), h y (.head _)]; omega
theorem one_app {l : List Str} {b : Str} (h : ∀ y ∈ l, y.length = 1) (hb : b.length = 1) : ∀ y ∈ l ++ [b], y.length = 1 := fun y hy => by
  rcases List.mem_append.mp hy with q | q
  · exact h y q
  · rw [List.mem_singleton.mp q]; exact hb
theorem join_K {prog : Program} {w : World} {A : Around} {E : Value → Shared → Prop} {s : Shared} {h₀ : Heap} {L D : Addr} {news : List (Addr × Obj)} {us : List Value} {ys : List Str} {n : Nat} {t : Tok} {Q : Value → Shared → Prop}
    (N : News h₀ L s.heap news) (hm : (D, listOf us.toArray n) ∈ news) (hi : StrsAre us ys) (h1 : ∀ y ∈ ys, y.length = 1) (hz : ys.length ≤ 1000) (h : ∀ t' k, Q (.str (Txt.join (Str.ofString "") ys) t') { s with toks := k }) :
    wpAny (model prog w) A (call (.builtin "str.join") [.str (Str.ofString "") t, .ref D]) Q E s :=
  join_listW (News.isList N hm) hi (by decide) (by rw [sum_one h1]; omega) h
theorem va1 {A B C : Str} {ta tb tc : Tok} {v1 v2 v3 : Value} : valueAt (strPairs [(.str A ta, v1), (.str B tb, v2), (.str C tc, v3)]) A = some v1 := by
  simp [strPairs, valueAt]
theorem va2 {A B C : Str} {ta tb tc : Tok} {v1 v2 v3 : Value} (h : A ≠ B) : valueAt (strPairs [(.str A ta, v1), (.str B tb, v2), (.str C tc, v3)]) B = some v2 := by
  simp [strPairs, valueAt, h]
theorem va3 {A B C : Str} {ta tb tc : Tok} {v1 v2 v3 : Value} (h : A ≠ C) (h' : B ≠ C) : valueAt (strPairs [(.str A ta, v1), (.str B tb, v2), (.str C tc, v3)]) C = some v3 := by
  simp [strPairs, valueAt, h, h']
/-- between the turns of the run -/
def RunJ (w : World) (x : LW) (sg d l1 l2 l3 ll : Addr) (dO : Obj) (A B C : Str) (ta tb tc : Tok) (ns : Nat) (ln : Int) (t2 : Tok) (k1 k2 k3 : Nat) (all : List Str) (M0 : Str → Option Value) (n : Nat) (m' : Str → Option Value) (news' : List (Addr × Obj)) : Prop :=
  ∃ vs ws nb ls out nl fo wo, m' = (fun y => if y = Str.ofString "first" then fo else if y = Str.ofString "word" then wo else M0 y) ∧
    news' = pbNews w x vs nb ln t2 ++ [(ll, listOf ls.toArray nl), (d, dO), (l1, listOf #[.str B tb, .str C tc] k1), (l2, listOf #[.str A ta] k2), (l3, listOf #[.str A ta, .str A ta, .str A ta] k3), (sg, listOf #[.str A ta, .str B tb, .str C tc] ns)] ∧
    StrsAre vs ws ∧ StrsAre ls out ∧ (∀ y ∈ ws, y = A ∨ y = B ∨ y = C) ∧ n + out.length = 90 ∧ ws.length ≤ 25 + out.length ∧ out ++ tagRun A B C n ws = all
local macro_rules | `(tactic| k_room) => `(tactic| ((try simp only [depth_under_make, depth_under_kw, depth_in1, depth_deeper, depth_caller] at *); (try dsimp only [ktrTop] at *); (simp only [recursionLimit] at *); omega))
local macro_rules | `(tactic| walk_at "mine enter") => `(tactic| (refine' code_kept ?k1 ?k2 ?k3 ?k4 ?k5 ?kA ?kF ?kK ?k6 ?k7 ?k8 ?k9 ?kB ?_ ?c2 ?c3 ?c4 ?c5; (case kA => exact rfl); (case kF => exact rfl); (case kK => first | exact rfl | assumption); (case k1 => k_asm); (case k2 => k_asm); (case k3 => k_asm); (case k4 => k_asm); (case k5 => k_asm); (case k6 => k_is); (case k7 => k_is); (case k8 => k_room); (case k9 => exact BindsTo.of_eq rfl); (case c5 => decide); (case kB => exact locs rfl); (case c2 => exact rfl); (case c3 => exact rfl); (case c4 => exact rfl)))
local macro_rules | `(tactic| walk_at "exec While BoolOp") => `(tactic| (with_reducible refine hold_on ?_))
local macro_rules | `(tactic| walk_at "eval Dict") => `(tactic| (k_here; k_dflt (refine' kdn_eval (knd := PySem.strKind _ _) ?F ?N ?T ?a ?b ?c ?d ?_; (case F => k_asm); (case N => k_asm); (case T => exact Top.nolimit (by k_asm)); (case a => rfl); (case b => rfl); (case c => exact List.cons_ne_nil _ _); (case d => decide)); intro d' h' o' F' N' l1 lo' hd'; (try k_lt l1); (try k_sweep)))
local macro_rules | `(tactic| walk_at "KdnMade") => `(tactic| (k_here; k_dflt (refine' kdn_made_str ?F ?N ?U ?d ?k ?n ?_; (case F => k_asm); (case N => k_asm); (case U => k_updF); (case d => k_asm); (case k => rfl); (case n => (simp only [strPairs, List.map_cons, List.map_nil, List.nodup_cons, List.mem_cons, List.not_mem_nil, or_false, not_or]; simp_all))); intro h' o' F' N' hd'; (try dsimp only at N'); (try k_sweep)))
local macro_rules | `(tactic| walk_at "call ref") => `(tactic| (k_here; k_dflt (show wpAny _ _ (call (Value.ref 42) [Value.ref _]) _ _ _); k_dflt (refine' pop_in ?B ?F ?X ?N ?T ?k ?U ?s ?g ?d ?z ?_; (case B => k_asm); (case F => k_asm); (case X => k_asm); (case N => k_asm); (case T => k_asm); (case k => first | exact rfl | assumption); (case U => k_upd); (case s => k_allIn); (case g => exact ⟨by omega, by omega⟩); (case d => (dsimp only [ktrTop]; omega)); (case z => ((try simp only [List.length_append, List.length_cons, List.length_nil]); omega))); intro h' tk' F' N'; (try dsimp only at N'); (try k_sweep)))
local macro_rules | `(tactic| walk_at "call ref") => `(tactic| (k_here; k_dflt (show wpAny _ _ (call (Value.ref 49) [Value.ref _, _]) _ _ _); k_dflt (refine' push_in ?B ?F ?X ?N ?T ?k ?U ?s ?g ?d ?z ?_; (case B => k_asm); (case F => k_asm); (case X => k_asm); (case N => k_asm); (case T => k_asm); (case k => first | exact rfl | assumption); (case U => k_upd); (case s => k_allIn); (case g => exact ⟨by omega, by omega⟩); (case d => (dsimp only [ktrTop]; omega)); (case z => ((try simp only [List.length_append, List.length_cons, List.length_nil]); omega))); intro h' tk' F' N'; (try dsimp only at N'); (try k_sweep)))
local macro_rules | `(tactic| walk_at "subscriptTail") => `(tactic| (k_here; (with_reducible show wpAny _ _ (subscriptTail _ _ (Value.ref _) (Value.str _ _)) _ _ _); k_dflt (refine' kda_item (knd := PySem.strKind _ _) ?N ?p ?d ?k ?l ?_; (case N => k_asm); (case p => k_mem); (case d => k_asm); (case k => exact strKind_is _ _ _ _); (case l => first | exact va1 | exact va2 (by assumption) | exact va3 (by assumption) (by assumption)))))
local macro_rules | `(tactic| walk_at "exec For Name Subscript cons nil") => `(tactic| (k_here; (rename Fr _ _ _ _ => lF'); (with_unfolding_all refine' For_invVF lF' ?k1 ?k2 ?_; (case k1 => exact rfl); (case k2 => exact rfl); k_whole)))
local macro_rules | `(tactic| walk_at "call builtin:str.join") => `(tactic| (k_here; k_dflt (show wpAny _ _ (call (Value.builtin "str.join") [Value.str _ _, Value.ref _]) _ _ _); k_dflt (refine' join_K ?N ?m ?i ?o ?z ?_; (case N => k_asm); (case m => k_mem); (case i => first | exact strs_app (by assumption) (StrsAre.cons _ _ .nil) | exact strs_app (strs_app (by assumption) (StrsAre.cons _ _ .nil)) (StrsAre.cons _ _ .nil) | exact strs_app (strs_app (strs_app (by assumption) (StrsAre.cons _ _ .nil)) (StrsAre.cons _ _ .nil)) (StrsAre.cons _ _ .nil)); (case o => first | exact one_app (by assumption) (by assumption) | exact one_app (one_app (by assumption) (by assumption)) (by assumption) | exact one_app (one_app (one_app (by assumption) (by assumption)) (by assumption)) (by assumption)); (case z => ((try simp only [List.length_append, List.length_cons, List.length_nil]); omega))); intro t' k'))
local macro_rules | `(tactic| walk_at "call builtin:list.append") => `(tactic| (k_here; k_dflt (show wpAny _ _ (call (Value.builtin "list.append") [Value.ref _, _]) _ _ _); k_dflt (refine' app_K ?F ?N ?U ?z ?_; (case F => k_asm); (case N => k_asm); (case U => k_upd); (case z => omega)); intro h' F' N'; (try dsimp only at N'); (try k_sweep)))
theorem run_ok {w : World} {mean : ExcName → Option Value} {mg mb : Str → Option Value} {p : Program} {loose : List Str}
    {dp un : Nat} {gd : Option (List Code)} {cn : Str} {cs : Scope} {a : Addr} {ccd : Value} {cl : List (Str × Addr)} {outer : List Env} {A₀ : Around} {base h₀ : Heap} {L : Addr} {m : Str → Option Value} {s : Shared}
    {x : LW} {sg : Addr} {A B C : Str} {ta tb tc t90 t2 : Tok} {ns nb : Nat} {ln : Int} {vs : List Value} {ws : List Str} {R : Result → Shared → Prop}
    (BB : Below A₀ base outer h₀) (FF : Fr h₀ L s.heap m) (X : (Mine.hd.heap_39 w.params).In h₀) (N : News h₀ L s.heap (pbNews w x vs nb ln t2 ++ [(sg, listOf #[.str A ta, .str B tb, .str C tc] ns)]))
    (T : Top p loose mean mg mb h₀) (hk : cs.kind = .function) (hg : @LT.lt Nat _ sg x.dlx ∧ @LT.lt Nat _ x.dlx x.lx ∧ @LT.lt Nat _ x.lx x.pb) (hd : dp < 530)
    (hAB : A ≠ B) (hAC : A ≠ C) (hBC : B ≠ C) (hA : A.length = 1) (hB : B.length = 1) (hC : C.length = 1) (hvs : StrsAre vs ws) (hws : ∀ y ∈ ws, y = A ∨ y = B ∨ y = C) (hwl : ws.length ≤ 25)
    (hret : ∀ h' tk' ll ls nl, StrsAre ls (tagRun A B C 90 ws) → @LT.lt Nat _ x.pb ll → Fr h₀ L h' m → News h₀ L h' [(ll, listOf ls.toArray nl), (sg, listOf #[.str A ta, .str B tb, .str C tc] ns)] →
      Kept s.heap (pbNews w x vs nb ln t2 ++ [(sg, listOf #[.str A ta, .str B tb, .str C tc] ns)]) h' → R (.ok (.ret (.ref ll))) { s with heap := h', toks := tk' }) :
    codeAny (model PySem.Challenge.rw_oc0403_01.row.prog w) (ktrTop dp un gd cn cs L a ccd cl outer) (.call (.ref 82) ⟨[.ref x.lx, .ref sg, .int 90 t90], []⟩) R s := by
  have dummy : PySem.Challenge.rw_oc0403_01.prog = PySem.Challenge.rw_oc0403_01.prog ∧ Mine.hd.heap_39 = Mine.hd.heap_39 := by
    k_fill
    exact ⟨rfl, rfl⟩
  clear dummy
  w_on
  k_dflt walk_at "mine enter"
  intro g' L' h' KG' FG' F' N' B' X' T' l1
  clear l1
  dsimp only
  dsimp only [pbNews, lexDict, List.cons_append, List.nil_append] at N'
  refine wpAny_noRaise ?_
  k_fold
  k_steps
  rename News _ _ _ _ => NN
  rename Fr _ _ _ _ => FN
  rename Obj.IsDictOf _ _ (strPairs _) => hD
  rename_i d hx1 o0 lo hd0 ld0 l1 hx2 ll1 l2 hx3 ll2 l3 hx4 ll3 hx5 dO hx6 ll hx7 ll4 hx8
  refine hold_off (while_from (n₀ := 90) (RunJ w x sg d l1 l2 l3 ll dO A B C ta tb tc ns ln t2 0 0 0 (tagRun A B C 90 ws)) FN (nsub (l' := pbNews w x vs nb ln t2 ++ [(ll, listOf #[] 0), (d, dO), (l1, listOf #[.str B tb, .str C tc] 0), (l2, listOf #[.str A ta] 0), (l3, listOf #[.str A ta, .str A ta, .str A ta] 0), (sg, listOf #[.str A ta, .str B tb, .str C tc] ns)]) NN (by dsimp only [pbNews, lexDict, List.cons_append, List.nil_append]; k_allIn)) ?_ ?_ PassesOwn.never)
  · exact ⟨vs, ws, nb, [], [], 0, _, _, over2_self _ _ _, rfl, hvs, .nil, hws, rfl, hwl, rfl⟩
  · clear NN FN
    rintro n m₁ news₁ h₁ tk₁ F1 N1 ⟨vs1, ws1, nb1, ls, out, nl, fo, wo, rfl, rfl, hvs1, hls, hws1, hn, hwl1, hall⟩
    have hlv := strs_len hvs1
    have hlo := strs_len hls
    have hz1 : vs1.toArray.size = vs1.length := List.size_toArray
    have hz2 : ls.toArray.size = ls.length := List.size_toArray
    have hz3 : vs1.toArray.size ≤ 200 := by omega
    have hz4 : ls.toArray.size ≤ 200 := by omega
    dsimp only [pbNews, lexDict, List.cons_append, List.nil_append] at N1
    by_cases hgo : 1 < vs1.length ∧ ls.length < 90
    · obtain ⟨g1, g2⟩ := hgo
      cases hvs1 with
      | nil => exact absurd g1 (by decide)
      | cons f tf hvs2 =>
        cases hvs2 with
        | nil => exact absurd g1 (by simp)
        | cons g tg hvs3 =>
          rename_i vr wr
          have hvw := strs_len hvs3
          have hvr : vr.length ≤ 150 := by
            simp only [List.length_cons] at hwl1
            omega
          have hf := hws1 f (.head _)
          have hw1 : ∀ y ∈ wr, y.length = 1 := fun y hy => by
            rcases hws1 y (.tail _ (.tail _ hy)) with rfl | rfl | rfl <;> assumption
          rcases hf with e | e | e
          · subst e
            k_steps
            rename Fr _ _ _ _ => F9
            rename News _ _ _ _ => N9
            obtain ⟨n', rfl⟩ : ∃ n', n = n' + 1 := ⟨n - 1, by omega⟩
            simp only [tagRun, tagRule, if_true] at hall
            refine WhileStep.intro (fr_over2 (Str.ofString "first") (Str.ofString "word") F9 ?_) (nsub N9 (l' := pbNews w x (vr ++ [.str B tb] ++ [.str C tc]) _ ln t2 ++ [(ll, listOf (ls ++ [_]).toArray _), (d, dO), (l1, _), (l2, _), (l3, _), (sg, _)]) (by dsimp only [pbNews, lexDict, List.cons_append, List.nil_append]; k_allIn)) (Nat.lt_succ_self n') ⟨_, _, _, _, out ++ [Txt.join (Str.ofString "") (wr ++ [B] ++ [C])], _, _, _, rfl, rfl, strs_app (strs_app hvs3 (StrsAre.cons _ _ .nil)) (StrsAre.cons _ _ .nil), strs_app hls (StrsAre.cons _ _ .nil), ?_, ?_, ?_, ?_⟩
            · intro y a b
              simp only [if_neg a, if_neg b]
            · intro y hy
              simp only [List.append_assoc, List.cons_append, List.nil_append, List.mem_append, List.mem_cons, List.not_mem_nil, or_false] at hy
              rcases hy with q | q
              · exact hws1 y (.tail _ (.tail _ q))
              · rcases q with rfl | rfl <;> simp
            · rw [List.length_append, List.length_singleton]; omega
            · simp only [List.length_append, List.length_cons, List.length_nil] at hwl1 ⊢; omega
            · simp only [List.append_assoc, List.cons_append, List.nil_append] at hall ⊢; exact hall
          · subst e
            k_steps
            rename Fr _ _ _ _ => F9
            rename News _ _ _ _ => N9
            obtain ⟨n', rfl⟩ : ∃ n', n = n' + 1 := ⟨n - 1, by omega⟩
            simp only [tagRun, tagRule, if_neg (Ne.symm hAB), if_true] at hall
            refine WhileStep.intro (fr_over2 (Str.ofString "first") (Str.ofString "word") F9 ?_) (nsub N9 (l' := pbNews w x (vr ++ [.str A ta]) _ ln t2 ++ [(ll, listOf (ls ++ [_]).toArray _), (d, dO), (l1, _), (l2, _), (l3, _), (sg, _)]) (by dsimp only [pbNews, lexDict, List.cons_append, List.nil_append]; k_allIn)) (Nat.lt_succ_self n') ⟨_, _, _, _, out ++ [Txt.join (Str.ofString "") (wr ++ [A])], _, _, _, rfl, rfl, strs_app hvs3 (StrsAre.cons _ _ .nil), strs_app hls (StrsAre.cons _ _ .nil), ?_, ?_, ?_, ?_⟩
            · intro y a b
              simp only [if_neg a, if_neg b]
            · intro y hy
              simp only [List.append_assoc, List.cons_append, List.nil_append, List.mem_append, List.mem_cons, List.not_mem_nil, or_false] at hy
              rcases hy with q | q
              · exact hws1 y (.tail _ (.tail _ q))
              · rcases q with rfl <;> simp
            · rw [List.length_append, List.length_singleton]; omega
            · simp only [List.length_append, List.length_cons, List.length_nil] at hwl1 ⊢; omega
            · simp only [List.append_assoc, List.cons_append, List.nil_append] at hall ⊢; exact hall
          · subst e
            k_steps
            rename Fr _ _ _ _ => F9
            rename News _ _ _ _ => N9
            obtain ⟨n', rfl⟩ : ∃ n', n = n' + 1 := ⟨n - 1, by omega⟩
            simp only [tagRun, tagRule, if_neg (Ne.symm hAC), if_neg (Ne.symm hBC)] at hall
            refine WhileStep.intro (fr_over2 (Str.ofString "first") (Str.ofString "word") F9 ?_) (nsub N9 (l' := pbNews w x (vr ++ [.str A ta] ++ [.str A ta] ++ [.str A ta]) _ ln t2 ++ [(ll, listOf (ls ++ [_]).toArray _), (d, dO), (l1, _), (l2, _), (l3, _), (sg, _)]) (by dsimp only [pbNews, lexDict, List.cons_append, List.nil_append]; k_allIn)) (Nat.lt_succ_self n') ⟨_, _, _, _, out ++ [Txt.join (Str.ofString "") (wr ++ [A] ++ [A] ++ [A])], _, _, _, rfl, rfl, strs_app (strs_app (strs_app hvs3 (StrsAre.cons _ _ .nil)) (StrsAre.cons _ _ .nil)) (StrsAre.cons _ _ .nil), strs_app hls (StrsAre.cons _ _ .nil), ?_, ?_, ?_, ?_⟩
            · intro y a b
              simp only [if_neg a, if_neg b]
            · intro y hy
              simp only [List.append_assoc, List.cons_append, List.nil_append, List.mem_append, List.mem_cons, List.not_mem_nil, or_false] at hy
              rcases hy with q | q
              · exact hws1 y (.tail _ (.tail _ q))
              · rcases q with rfl | rfl | rfl <;> simp
            · rw [List.length_append, List.length_singleton]; omega
            · simp only [List.length_append, List.length_cons, List.length_nil] at hwl1 ⊢; omega
            · simp only [List.append_assoc, List.cons_append, List.nil_append] at hall ⊢; exact hall
    · have hend : tagRun A B C n ws1 = [] := by
        by_cases h1 : 1 < vs1.length
        · have : n = 0 := by
            have : ¬ ls.length < 90 := fun h2 => hgo ⟨h1, h2⟩
            omega
          subst this
          rfl
        · cases ws1 with
          | nil => cases n <;> rfl
          | cons y1 r1 =>
            cases r1 with
            | nil => cases n <;> rfl
            | cons y2 r2 => exact absurd hlv (by simp only [List.length_cons]; omega)
      rw [hend, List.append_nil] at hall
      k_steps
      all_goals (
        rename Fr h₀ L _ _ => FE
        rename News h₀ L _ _ => NE
        rename Fr g' L' _ _ => FI
        exact hret _ _ ll ls nl (by rw [← hall]; exact hls) (by omega) FE (nsub NE (by k_allIn)) (KG'.fr FI))
end Mine
end
section
open PySem PySem.W PyProof.Rows
namespace Mine
theorem slot_list_iadd : Slot "list" "__iadd__" "list.__iadd__" :=
  .of (owner := "list") (n := "__iadd__") (by rw [typeLookup_type, builtinLookup_eq_fast]; kernel_rfl) (by decide +kernel) (by decide +kernel) (by decide +kernel)
    (by first | exact .inl (by decide +kernel) | exact .inr (by decide +kernel)) (by rw [isSubtype_type]; kernel_rfl)
theorem args_list_iadd (a b : Value) : argsOk "list.__iadd__" ⟨[a, b], []⟩ := by unfold argsOk; kernel_rfl
section
variable {prog : Program} {w : World} {A : Around} {E : Value → Shared → Prop} {s : Shared} {h₀ : Heap} {L D D2 : Addr} {m : Str → Option Value} {news : List (Addr × Obj)} {news' : Nat → List (Addr × Obj)} {ls ys : List Value} {n n2 : Nat} {Q : Value → Shared → Prop}
/-- a list that takes another one's items in place -/
theorem iadd_K (FF : Fr h₀ L s.heap m) (N : News h₀ L s.heap news) (hb : (D2, listOf ys.toArray n2) ∈ news) (U : ∀ n', Upd D (listOf ls.toArray n) (listOf (ls ++ ys).toArray n') news (news' n')) (hz : ls.length + ys.length ≤ 100000)
    (h : ∀ h' n', Fr h₀ L h' m → News h₀ L h' (news' n') → Q (.ref D) { s with heap := h' }) : wpAny (model prog w) A (inplaceOp .Add (.ref D) (.ref D2)) Q E s := by
  obtain ⟨pre, post, e1, _, a, b⟩ := (U 0).split
  have z := N (D, listOf ls.toArray n) (by rw [e1]; exact List.mem_append.mpr (.inr (.head _)))
  have hl := z.1
  have hb' := (N _ hb).1
  have hT : s.TypeIs (.ref D) "list" := ⟨_, hl, rfl⟩
  have hT2 : s.TypeIs (.ref D2) "list" := ⟨_, hb', rfl⟩
  have hline : sizeLine = 16777216 := by decide
  unfold inplaceOp
  refine wpAny_holding ?_
  have hlk : typeLookup (.type "list") (dunderI "add") = pure (some (.builtin "list.__iadd__")) := slot_list_iadd.lookup
  have hsq : isSeqSlot (some (.builtin "list.__iadd__")) = true := by decide +kernel
  have hfi : fillsInplaceSlot (.type "list") "add" (Operator.Add == .Add) = pure false := by
    unfold fillsInplaceSlot
    show (typeLookup (.type "list") (dunderI "add") >>= fun fi => pure (fi.isSome && !isSeqSlot fi)) = pure false
    rw [hlk, pure_bind, hsq]; rfl
  have hsi : seqSlot? (.type "list") (dunderI "add") = pure (some (.builtin "list.__iadd__")) := PySem.seqSlot_of hlk hsq
  refine wpAny_bind (wpAny_typeOf hT (wpAny_bind (wpAny_of_eq hfi ?_)))
  show wpAny _ A (if false = true then _ else _) Q E s
  rw [if_neg Bool.false_ne_true]
  refine wpAny_bind (wpAny_binaryOp1_none (nm := "add") hT hT2 noFill_list_add ?_)
  refine wpAny_bind (wpAny_of_eq hsi ?_)
  refine wpAny_bind (wpAny_rule ?_)
  refine call_meets slot_list_iadd hT F.entry_list_iadd (args_list_iadd _ _) (AutoSeq1.list___iadd___list_list_0 D _ n D2 _ n2 (by simp [Builtin.List.listTooLong, sizeLine]; omega) (by rw [List.size_toArray]; omega) (by rw [List.size_toArray, List.size_toArray]; omega)) ⟨hl, hb', ?_⟩
  have hs : Heap.SameBut D s.heap (s.heap.update D (Obj.mapSeq fun x => x ++ ys.toArray)) := Heap.SameBut.update ..
  have q := PySem.IsL.update hl (fun x => x ++ ys.toArray)
  rw [List.append_toArray] at q
  obtain ⟨pre', post', e1', e2', a', b'⟩ := (U (if ((ls ++ ys).toArray.size == ls.toArray.size) = true then n else n + 1)).split
  refine h _ (if ((ls ++ ys).toArray.size == ls.toArray.size) = true then n else n + 1) (FF.change hs z.2.1 z.2.2) ?_
  rw [e2']
  rw [e1'] at N
  exact news_set N a' b' hs q
end
end Mine
end
section
open PySem PySem.W PyProof.Rows
set_option linter.unusedSimpArgs false
namespace Mine
section
variable {prog : Program} {w : World} {A A₀ : Around} {s : Shared} {K : Frag} {L : Addr} {h₀ base : Heap} {m mg mb : Str → Option Value} {news : List (Addr × Obj)} {p : Program} {loose : List Str} {mean : ExcName → Option Value}
/-- a def with cells is entered; its own base keeps all but the ledger -/
theorem code_keptC {env : Env} {outer : List Env} {R : Result → Shared → Prop} {name qual : Str} {params : Arguments} {body : List Stmt} {scope : Scope} {dV kV doc pm cdv ct oc : Value} {an od : Option Addr} {osl : Array (Option Value)} {f : Addr} {args : Args} {binds : List (Str × Value)}
    (B : Below A₀ base outer h₀) (FF : Fr h₀ L s.heap m) (X₀ : K.In h₀) (N : News h₀ L s.heap news) (T : Top p loose mean mg mb h₀) (hA : A.frames = some (env :: outer)) (hf : env.frame = some L) (hke : env.scope.kind = .function)
    (ho : K.lookup f = some ⟨oc, od, .func (fnOf name qual params body scope dV kV doc pm an cdv ct), osl⟩) (hcd : codeIn K cdv qual = true) (hroom : A.depth < recursionLimit)
    (hbind : BindsTo s (fnOf name qual params body scope dV kV doc pm an cdv ct) args binds) (hkind : (binds.all fun y => scope.names.lookup y.1 == some .local || scope.names.lookup y.1 == some .cell) = true)
    (hnd : ((cellsFrom 0 scope.names []).map (·.1)).Nodup)
    (h : ∀ g L' h₁ tk cells, Kept s.heap news g → Fr h₀ L g m → Fr g L' h₁ (bindL (envOfC qual scope L' f cdv).kindOf binds fun _ => none) → News g L' h₁ (cells ++ news) →
      CellsAre (bindC (envOfC qual scope L' f cdv).kindOf binds fun _ => none) (cellsFrom (L' + 1) scope.names []) cells → Below A base (env :: outer) g → K.In g → Top p loose mean mg mb g → (∀ p ∈ news, p.1 < L') →
      wpAny (model prog w) (A.deeper (envOfC qual scope L' f cdv)) (execs body (envOfC qual scope L' f cdv))
        (fun fl s' => LeaveK h₀ L m g R (match fl with | .ret v => v | _ => .none) s')
        (fun e s' => wpAny (model prog w) (A.deeper (envOfC qual scope L' f cdv)) (leaving (envOfC qual scope L' f cdv) e) (fun _ s'' => R (.error e) s'') (fun e' s'' => R (.error e') s'') s')
        { s with heap := h₁, toks := tk })
    (hco : scope.isCoroutine = false) (hgen : scope.isGenerator = false) (hk : scope.kind = .function) : codeAny (model prog w) A (.call (.ref f) args) R s := by
  obtain ⟨FG, BG, st, lv⟩ := groundX (R := R) B FF N hA hf hke
  refine codeAny_call_function (fd := fnOf name qual params body scope dV kV doc pm an cdv ct) hroom ((X₀.keeps FF.keep) _ _ ho) rfl hco hgen rfl (codeRec_of (X₀.keeps FF.keep) hcd) (hbind _ _ _ _ ?_)
  refine wpAny_newFunctionEnv_cells hk (kindsX hkind _) fun env' he s' x => ?_
  subst he
  refine ⟨(T.nolimit.keeps FF.keep).keeps x.toInCall.keep, codeAny_func ?_⟩
  obtain ⟨h₁, tk, rfl, _⟩ := x.done
  have hk₁ := x.toInCall.keep
  obtain ⟨cells, NC, Y⟩ := Cl.news (h₀ := s.heap) (Nat.le_refl _) fun n c hm => ⟨x.cell n c (lookup_of_mem_nodup (cellsFrom_names scope.names 0 (s.heap.objs.size + 1) [] [] rfl ▸ hnd) hm), x.above n c hm⟩
  refine wpAny_mono (h _ s.heap.objs.size h₁ tk cells (fun b o e n => hideAll_get _ e n) FG ⟨x.toInCall.ns, fun b o e => hk₁ b o (of_hideAll _ e), Nat.le_of_eq (hideAll_size _ _)⟩ (fun p hp => ?_) Y BG (X₀.keeps st) (T.keeps st) (fun p hp => Heap.lt_size (N p hp).1)) (fun fl s' hl => lv _ _ hl) fun _ _ y => y
  rcases List.mem_append.mp hp with hp | hp
  · refine ⟨(NC p hp).1, (NC p hp).2.1, ?_⟩
    cases q : (hideAll s.heap (news.map (·.1))).get? p.1 with
    | none => rfl
    | some o => have := of_hideAll _ q; rw [(NC p hp).2.2] at this; cases this
  · exact ⟨hk₁ _ _ (N p hp).1, Nat.ne_of_lt (Heap.lt_size (N p hp).1), hideAll_none _ (List.mem_map_of_mem hp)⟩
end
/-- a text's room, by pieces of six thousand signs -/
def Lg (k : Nat) (x : Str) : Prop := x.length ≤ 6000 * k
/-- a small number -/
def Sm (n : Int) : Prop := -2000 ≤ n ∧ n ≤ 2000
theorem sm_a {c k : Int} (h1 : 1 < c) (h2 : c ≤ 200) (h3 : 0 ≤ k) (h4 : k ≤ 200) : Sm (c - 2 * k) := ⟨by omega, by omega⟩
theorem sm_b {k : Int} (h3 : 0 ≤ k) (h4 : k ≤ 200) : Sm k := ⟨by omega, by omega⟩
theorem sm_c {c k : Int} (h1 : 1 ≤ c) (h2 : c ≤ 100) (h3 : 0 ≤ k) (h4 : k ≤ 200) : Sm (c - k) := ⟨by omega, by omega⟩
theorem sm_d {k : Int} (h3 : 0 ≤ k) (h4 : k ≤ 200) : Sm (3 * k) := ⟨by omega, by omega⟩
theorem kz {a k : Int} (h : a ≤ k) (ha : 0 ≤ a := by decide) : 0 ≤ k := by omega
theorem kb1 {k c : Int} (h : k < 1 + ((c + 1 - 1).toNat : Int)) (hc : c ≤ 100) : k ≤ 200 := by omega
theorem kb0 {k c : Int} (h : k < 0 + ((c + 1 - 0).toNat : Int)) (hc : c ≤ 100) (h1 : 1 ≤ c) : k ≤ 200 := by omega
section
variable {prog : Program} {w : World} {A : Around} {E : Value → Shared → Prop} {s : Shared} {x y : Str} {t u : Tok} {Q : Value → Shared → Prop} {n : Int} {a b : Nat}
theorem mul_K (hx : x.length ≤ 3) (hn : Sm n) (h : ∀ t' k, Lg 1 (Txt.mul x n) → Q (.str (Txt.mul x n) t') { s with toks := k }) : wpAny (model prog w) A (binaryOp .Mult (.str x t) (.int n u)) Q E s :=
  SB.mul (mulOk_of 3 2000 hx hn.2 (by have := hn.1; omega) (by decide) (by decide)) fun t' k => h t' k (len_mul_leN (L := 3) (N := 2000) hx hn.2)
theorem add_K (hx : Lg a x) (hy : Lg b y) (hab : a + b ≤ 100) (h : ∀ t' k, Lg (a + b) (x ++ y) → Q (.str (x ++ y) t') { s with toks := k }) : wpAny (model prog w) A (binaryOp .Add (.str x t) (.str y u)) Q E s :=
  SBL.add (fun t' k _ => h t' k (by unfold Lg at *; rw [Str.length_append]; omega)) (by
    have : sizeLine = 16777216 := by decide
    unfold Lg at *
    omega)
end
theorem strs_take {vs : List Value} {ws : List Str} (h : StrsAre vs ws) : ∀ n, StrsAre (vs.take n) (ws.take n) := by
  induction h with
  | nil => intro n; simp; exact .nil
  | cons y t _ ih =>
    intro n
    cases n with
    | zero => simp; exact .nil
    | succ n => simp only [List.take_succ_cons]; exact .cons y t (ih n)
/-- the lines of one round -/
def dueRound (A P C : Str) (n : Int) : List Str :=
  (rangeKs 1 (n.fdiv 2 + 1 - 1).toNat).map (fun k => Txt.mul A (n - 2 * k) ++ Txt.mul P k) ++
    (if n.fmod 2 = 0 then (rangeKs 1 (n.fdiv 2 + 1 - 1).toNat).map (fun k => Txt.mul P (n.fdiv 2 - k) ++ Txt.mul A k)
     else (rangeKs 0 (n.fdiv 2 + 1 - 0).toNat).map (fun k => C ++ Txt.mul P (n.fdiv 2 - k) ++ Txt.mul A (3 * k)) ++ [Txt.mul A (3 * n.fdiv 2 + 2)])
def dueNext (n : Int) : Int := if n.fmod 2 = 0 then n.fdiv 2 else 3 * n.fdiv 2 + 2
def dueGo (A P C : Str) : Nat → Int → List Str → List Str
  | 0, _, out => out
  | f + 1, n, out => if 1 < n ∧ out.length < 90 then dueGo A P C f (dueNext n) (out ++ dueRound A P C n) else out
/-- between the turns of the reckoning -/
def DueJ (sg ll c1 c2 c3 c4 c5 : Addr) (oA oP oC : Obj) (A B C : Str) (ta tb tc : Tok) (ns : Nat) (all : List Str) (M0 : Str → Option Value) (n : Nat) (m' : Str → Option Value) (news' : List (Addr × Obj)) : Prop :=
  ∃ (cnt : Int) (tn : Tok) (oc oh : Obj) (hv : Option Value) (ls : List Value) (out : List Str) (nl tr : Nat), m' = M0 ∧
    news' = [(ll, listOf ls.toArray nl), (c5, oh), (c4, oC), (c3, oP), (c2, oA), (c1, oc), (sg, listOf #[.str A ta, .str B tb, .str C tc] ns)] ∧
    oc.data = .cell (some (.int cnt tn)) ∧ oh.data = .cell hv ∧ StrsAre ls out ∧ n + tr = 200 ∧ tr ≤ out.length ∧ 1 ≤ cnt ∧ cnt ≤ 25 + out.length ∧ out.length ≤ 400 ∧ dueGo A (B ++ C) C n cnt out = all
local macro_rules | `(tactic| k_room) => `(tactic| ((try simp only [depth_under_make, depth_under_kw, depth_in1, depth_deeper, depth_caller] at *); (try dsimp only [ktrTop] at *); (simp only [recursionLimit] at *); omega))
local macro_rules | `(tactic| walk_at "mine enterC") => `(tactic| (refine' code_keptC ?k1 ?k2 ?k3 ?k4 ?k5 ?kA ?kF ?kK ?k6 ?k7 ?k8 ?k9 ?kB ?kD ?_ ?c2 ?c3 ?c4; (case kA => exact rfl); (case kF => exact rfl); (case kK => first | exact rfl | assumption); (case k1 => k_asm); (case k2 => k_asm); (case k3 => k_asm); (case k4 => k_asm); (case k5 => k_asm); (case k6 => k_is); (case k7 => k_is); (case k8 => k_room); (case k9 => exact BindsTo.of_eq rfl); (case kB => exact rfl); (case kD => decide +kernel); (case c2 => exact rfl); (case c3 => exact rfl); (case c4 => exact rfl)))
local macro_rules | `(tactic| walk_at "exec While BoolOp") => `(tactic| (with_reducible refine hold_on ?_))
local macro_rules | `(tactic| walk_at "CompSrc") => `(tactic| (k_here; k_dflt (refine LCg.CompSrc.range (by rfl) (by k_asm) (by k_asm) (by assumption) (by exact small_one (by l_bnd) (by l_bnd) (by l_bnd) (by l_bnd)) (by first | exact rangeSize_nat _ _ | rfl) (by rw [PySem.sizeLine_eq]; omega) ?_; intro g'; (refine' kct_range _ (fun k' t' I' oI' C' oC' D' m' ys' h' tk' E' hlo' hhi' hC' hx' F' N' off' ne' => ?_) ?_); (all_goals (try ((show KPfMark → _); (have hk0' := kz hlo'); (first | (have hk9' := kb1 hhi' (by assumption)) | (have hk9' := kb0 hhi' (by assumption) (by assumption))); intro hMark'))); kcf_last)))
local macro_rules | `(tactic| walk_at "CompEnd") => `(tactic| (refine LCg.CompEnd.intro (by assumption) (by assumption) _ (fun p hp => hp) (by assumption) (by first | lcg_src | assumption) ?_))
local macro_rules | `(tactic| walk_at "inplaceOp Add") => `(tactic| (k_here; (with_reducible show wpAny _ _ (inplaceOp Operator.Add (Value.ref _) (Value.ref _)) _ _ _); (with_reducible rename CarriedAll _ _ => hC9); (have hS9 := CarriedAll.strsOf hC9); (have hL9 := strs_len hS9); (simp only [List.length_map, rangeKs_length] at hL9); clear hC9; k_dflt (refine' iadd_K ?F ?N ?b ?U ?z ?_; (case F => k_asm); (case N => k_asm); (case U => (intro n'; k_upd)); (case b => k_mem); (case z => ((try simp only [List.length_append]); omega))); intro h' n' F' N'; (try dsimp only at N'); (try k_sweep); (replace N' := nsub N' (fun p hp => List.Mem.tail _ hp)); (try (with_reducible rename (_ ≠ _ ∧ _) => o9; clear o9))))
local macro_rules | `(tactic| walk_at "binaryOp Mult str int") => `(tactic| (k_here; (with_reducible show wpAny _ _ (binaryOp Operator.Mult (Value.str _ _) (Value.int _ _)) _ _ _); (refine mul_K (by assumption) (by first | exact sm_a (by assumption) (by assumption) (by assumption) (by assumption) | exact sm_c (by assumption) (by assumption) (by assumption) (by assumption) | exact sm_d (by assumption) (by assumption) | exact sm_b (by assumption) (by assumption) | assumption) ?_); intro _ _ lgM'))
local macro_rules | `(tactic| walk_at "binaryOp Add str str") => `(tactic| (k_here; (with_reducible show wpAny _ _ (binaryOp Operator.Add (Value.str _ _) (Value.str _ _)) _ _ _); (refine add_K (by assumption) (by assumption) (by decide) ?_); intro _ _ lgM'))
local macro_rules | `(tactic| walk_at "call builtin:list.append") => `(tactic| (k_here; k_dflt (show wpAny _ _ (call (Value.builtin "list.append") [Value.ref _, _]) _ _ _); k_dflt (refine' app_K ?F ?N ?U ?z ?_; (case F => k_asm); (case N => k_asm); (case U => k_upd); (case z => ((try simp only [List.length_append]); omega))); intro h' F' N'; (try dsimp only at N'); (try k_sweep)))
theorem due_ok {w : World} {mean : ExcName → Option Value} {mg mb : Str → Option Value} {p : Program} {loose : List Str}
    {dp un : Nat} {gd : Option (List Code)} {cn : Str} {cs : Scope} {a : Addr} {ccd : Value} {cl : List (Str × Addr)} {outer : List Env} {A₀ : Around} {base h₀ : Heap} {L : Addr} {m : Str → Option Value} {s : Shared}
    {sg : Addr} {A B C : Str} {ta tb tc t90 tn : Tok} {ns nb : Nat} {cnt : Int} {R : Result → Shared → Prop}
    (BB : Below A₀ base outer h₀) (FF : Fr h₀ L s.heap m) (X : (Mine.hd.heap_39 w.params).In h₀) (N : News h₀ L s.heap [(sg, listOf #[.str A ta, .str B tb, .str C tc] ns)])
    (T : Top p loose mean mg mb h₀) (hk : cs.kind = .function) (hd : dp < 530)
    (hA : A.length = 1) (hB : B.length = 1) (hC : C.length = 1) (hc : 2 ≤ cnt ∧ cnt ≤ 25)
    (hret : ∀ h' tk' dd ds, StrsAre ds ((dueGo A (B ++ C) C 200 cnt []).take 90) → Fr h₀ L h' m → News h₀ L h' [(dd, listOf ds.toArray 0), (sg, listOf #[.str A ta, .str B tb, .str C tc] ns)] →
      Kept s.heap [(sg, listOf #[.str A ta, .str B tb, .str C tc] ns)] h' → R (.ok (.ret (.ref dd))) { s with heap := h', toks := tk' }) :
    codeAny (model PySem.Challenge.rw_oc0403_01.row.prog w) (ktrTop dp un gd cn cs L a ccd cl outer) (.call (.ref 87) ⟨[.int cnt tn, .ref sg, .int 90 t90], []⟩) R s := by
  have dummy : PySem.Challenge.rw_oc0403_01.prog = PySem.Challenge.rw_oc0403_01.prog ∧ Mine.hd.heap_39 = Mine.hd.heap_39 := by
    k_fill
    exact ⟨rfl, rfl⟩
  clear dummy
  w_on
  k_dflt walk_at "mine enterC"
  intro g' L' h' tk' cells' KG' FG' F' N' Y' B' X' T' l1
  k_lt l1
  k_cells Y'
  simp only [List.cons_append, List.nil_append] at N'
  (try dsimp only)
  refine wpAny_noRaise ?_
  k_fold
  k_steps
  rename News _ _ _ _ => NN
  rename Fr _ _ _ _ => FN
  (try dsimp only at NN FN)
  rename_i oh o2 o3 o4 oc d1 d2 d3 d4 d5 tp kp ab D hD lD hx1 hx2 oA dA hx3 oP dP hx4 oC dC ll hx5 lL hx6
  have dcnt : oc.data = .cell (some (.int cnt tn)) := d5
  have dhalf : oh.data = .cell none := d1
  clear d1 d2 d3 d4 d5
  refine hold_off (while_from (n₀ := 200) (DueJ sg ll (L' + 1) (L' + 1 + 1) (L' + 1 + 1 + 1) (L' + 1 + 1 + 1 + 1) (L' + 1 + 1 + 1 + 1 + 1) oA oP oC A B C ta tb tc ns (dueGo A (B ++ C) C 200 cnt [])) FN (nsub (l' := [(ll, listOf #[] 0), (L' + 1 + 1 + 1 + 1 + 1, oh), (L' + 1 + 1 + 1 + 1, oC), (L' + 1 + 1 + 1, oP), (L' + 1 + 1, oA), (L' + 1, oc), (sg, listOf #[.str A ta, .str B tb, .str C tc] ns)]) NN (by k_allIn)) ?_ ?_ PassesOwn.never)
  · exact ⟨cnt, tn, oc, oh, none, [], [], 0, 0, rfl, rfl, dcnt, dhalf, .nil, rfl, Nat.le_refl _, by omega, by simp; omega, by decide, rfl⟩
  · clear NN FN dcnt dhalf
    rintro n m₁ news₁ h₁ tk₁ F1 N1 ⟨cnt1, tn1, oc1, oh1, hv1, ls, out, nl, tr, rfl, rfl, dc1, dh1, hls, hn, htr, hc1, hc2, hol, hall⟩
    have hlo := strs_len hls
    have hz2 : ls.toArray.size = ls.length := List.size_toArray
    have hz4 : ls.toArray.size ≤ 400 := by omega
    by_cases hgo : 1 < cnt1 ∧ ls.length < 90
    · obtain ⟨g1, g2⟩ := hgo
      have hfd : cnt1.fdiv 2 = cnt1 / 2 := Int.fdiv_eq_ediv_of_nonneg _ (by omega)
      have hf1 : 1 ≤ cnt1.fdiv 2 := by omega
      have hf2 : 2 * cnt1.fdiv 2 ≤ cnt1 := by omega
      have hf3 : cnt1 ≤ 2 * cnt1.fdiv 2 + 1 := by omega
      have hf4 : cnt1.fdiv 2 ≤ 100 := by omega
      have hf5 : cnt1 ≤ 200 := by omega
      have hA3 : A.length ≤ 3 := by omega
      have hP3 : (B ++ C).length ≤ 3 := by omega
      have hC1 : Lg 1 C := by unfold Lg; omega
      have hsm : Sm (3 * cnt1.fdiv 2 + 2) := ⟨by omega, by omega⟩
      obtain ⟨n', rfl⟩ : ∃ n', n = n' + 1 := ⟨n - 1, by omega⟩
      rw [dueGo, if_pos ⟨g1, by omega⟩] at hall
      k_steps
      · rename Fr _ _ _ _ => F9
        rename News _ _ _ _ => N9
        rename cnt1.fmod 2 = 0 => hev
        rename StrsAre _ (List.map _ _) => hS2
        have hL2 := strs_len hS2
        revert hS2
        rename StrsAre _ (List.map _ _) => hS1
        intro hS2
        have hL1 := strs_len hS1
        simp only [dueRound, dueNext, if_pos hev] at hall
        simp only [List.length_map, rangeKs_length] at hL1 hL2
        refine WhileStep.intro (frext F9 ?_) N9 (Nat.lt_succ_self n') ⟨_, _, _, _, _, _, out ++ _ ++ _, _, tr + 1, rfl, rfl, by assumption, by assumption, strs_app (strs_app hls hS1) hS2, by omega, ?_, by omega, ?_, ?_, ?_⟩
        · intro y
          by_cases e : y = Str.ofString "lines"
          · subst e; rfl
          · simp only [if_neg e]
        · simp only [List.length_append, List.length_map, rangeKs_length]; omega
        · simp only [List.length_append, List.length_map, rangeKs_length]; omega
        · simp only [List.length_append, List.length_map, rangeKs_length]; omega
        · rw [List.append_assoc]; exact hall
      · rename Fr _ _ _ _ => F9
        rename News _ _ _ _ => N9
        rename ¬ cnt1.fmod 2 = 0 => hev
        rename StrsAre _ (List.map _ _) => hS2
        have hL2 := strs_len hS2
        revert hS2
        rename StrsAre _ (List.map _ _) => hS1
        intro hS2
        have hL1 := strs_len hS1
        simp only [dueRound, dueNext, if_neg hev] at hall
        simp only [List.length_map, rangeKs_length] at hL1 hL2
        refine WhileStep.intro (frext F9 ?_) N9 (Nat.lt_succ_self n') ⟨_, _, _, _, _, _, out ++ _ ++ _ ++ [_], _, tr + 1, rfl, rfl, by assumption, by assumption, strs_app (strs_app (strs_app hls hS1) hS2) (StrsAre.cons _ _ .nil), by omega, ?_, by omega, ?_, ?_, ?_⟩
        · intro y
          by_cases e : y = Str.ofString "lines"
          · subst e; rfl
          · simp only [if_neg e]
        · simp only [List.length_append, List.length_map, rangeKs_length, List.length_singleton]; omega
        · simp only [List.length_append, List.length_map, rangeKs_length, List.length_singleton]; omega
        · simp only [List.length_append, List.length_map, rangeKs_length, List.length_singleton]; omega
        · simp only [List.append_assoc] at hall ⊢; exact hall
    · have hend : out = dueGo A (B ++ C) C 200 cnt [] := by
        rw [← hall]
        cases n with
        | zero => rfl
        | succ n' => rw [dueGo, if_neg (fun h => hgo ⟨h.1, by omega⟩)]
      have hpk : slicePick ls.toArray none (some 90) none = (ls.take 90).toArray := slicePick_upto' ls.toArray 90
      k_steps
      all_goals (
        rename Fr h₀ L _ _ => FE
        rename News h₀ L _ _ => NE
        rename Fr g' L' _ _ => FI
        rw [hpk] at NE
        exact hret _ _ _ (ls.take 90) (by rw [← hend]; exact strs_take hls 90) FE (nsub NE (by k_allIn)) (KG'.fr FI))
end Mine
end
section
open PySem PySem.W PyProof.Rows
namespace Mine
local macro_rules | `(tactic| k_room) => `(tactic| ((try simp only [depth_under_make, depth_under_kw, depth_in1, depth_deeper, depth_caller] at *); (try dsimp only [ktrTop] at *); (simp only [recursionLimit] at *); omega))
local macro_rules | `(tactic| walk_at "mine enterC") => `(tactic| (refine' code_keptC ?k1 ?k2 ?k3 ?k4 ?k5 ?kA ?kF ?kK ?k6 ?k7 ?k8 ?k9 ?kB ?kD ?_ ?c2 ?c3 ?c4; (case kA => exact rfl); (case kF => exact rfl); (case kK => first | exact rfl | assumption); (case k1 => k_asm); (case k2 => k_asm); (case k3 => k_asm); (case k4 => k_asm); (case k5 => k_asm); (case k6 => k_is); (case k7 => k_is); (case k8 => k_room); (case k9 => exact BindsTo.of_eq rfl); (case kB => exact rfl); (case kD => decide +kernel); (case c2 => exact rfl); (case c3 => exact rfl); (case c4 => exact rfl)))
local macro_rules | `(tactic| walk_at "eval ListComp") => `(tactic| (k_here; k_dflt (refine LCg.ListComp_U (F₀ := by k_asm) (by with_unfolding_all rfl) (by decide) (by rfl) (by decide) (by rfl) ?_)))
local macro_rules | `(tactic| walk_at "CompSrc") => `(tactic| (k_here; k_dflt (refine LCg.CompSrc.ledger (by rfl) (by k_asm) (by k_asm) (by k_mem) (by exact Nat.le_of_ble_eq_true rfl) ?_; intro g'; (refine' kct_list _ (by l_ints) (fun k' t' I' oI' C' oC' D' m' ys' h' tk' E' hk' hC' hx' F' N' off' ne' => ?_) ?_); (all_goals (try ((show KPfMark → _); intro hMark'))); kcf_last)))
local macro_rules | `(tactic| walk_at "CompEnd") => `(tactic| (refine LCg.CompEnd.intro (by assumption) (by assumption) _ (fun p hp => hp) (by assumption) (by first | lcg_src | assumption) ?_))
/-- one of the six signs -/
abbrev sgn (i : Int) : Str := Txt.item (Str.ofString "x# \"\\\n") (i.fmod 6)
theorem signs_ok {w : World} {mean : ExcName → Option Value} {mg mb : Str → Option Value} {p : Program} {loose : List Str}
    {dp un : Nat} {gd : Option (List Code)} {cn : Str} {cs : Scope} {a : Addr} {ccd : Value} {cl : List (Str × Addr)} {outer : List Env} {A₀ : Around} {base h₀ : Heap} {L : Addr} {m : Str → Option Value} {s : Shared}
    {tn : Tok} {num : Int} {R : Result → Shared → Prop}
    (BB : Below A₀ base outer h₀) (FF : Fr h₀ L s.heap m) (X : (Mine.hd.heap_39 w.params).In h₀) (N : News h₀ L s.heap [])
    (T : Top p loose mean mg mb h₀) (hk : cs.kind = .function) (hd : dp < 530) (hn : 0 ≤ num ∧ num ≤ 1000000)
    (hret : ∀ h' tk' sg ta tb tc, Fr h₀ L h' m → News h₀ L h' [(sg, listOf #[.str (sgn num) ta, .str (sgn (num + 1 + (num.fdiv 6).fmod 2)) tb, .str (sgn (num + 3 + (num.fdiv 12).fmod 3)) tc] 3)] → Kept s.heap [] h' →
      R (.ok (.ret (.ref sg))) { s with heap := h', toks := tk' }) :
    codeAny (model PySem.Challenge.rw_oc0403_01.row.prog w) (ktrTop dp un gd cn cs L a ccd cl outer) (.call (.ref 68) ⟨[.int num tn], []⟩) R s := by
  have dummy : PySem.Challenge.rw_oc0403_01.prog = PySem.Challenge.rw_oc0403_01.prog ∧ Mine.hd.heap_39 = Mine.hd.heap_39 := by
    k_fill
    exact ⟨rfl, rfl⟩
  clear dummy
  w_on
  k_dflt walk_at "mine enterC"
  intro g' L' h' tk' cells' KG' FG' F' N' Y' B' X' T' l1
  clear l1
  k_cells Y'
  simp only [List.cons_append, List.nil_append] at N'
  (try dsimp only)
  refine wpAny_noRaise ?_
  k_fold
  k_steps
  rename CarriedAll _ _ => hC
  rename Fr h₀ L _ _ => FE
  rename News h₀ L _ _ => NE
  rename Fr g' L' _ _ => FI
  have hS := CarriedAll.strsOf hC
  simp only [List.map_cons, List.map_nil] at hS
  cases hS with
  | cons y1 t1 hS1 => cases hS1 with
    | cons y2 t2 hS2 => cases hS2 with
      | cons y3 t3 hS3 =>
        cases hS3
        exact hret _ _ _ t1 t2 t3 FE (nsub NE (by k_allIn)) (KG'.fr FI)
end Mine
end
section
open PySem PySem.W PyProof.Rows
namespace Mine
theorem iaddS_K {prog : Program} {w : World} {A : Around} {E : Value → Shared → Prop} {s : Shared} {x y : Str} {t u : Tok} {Q : Value → Shared → Prop} {a b : Nat} (hx : Lg a x) (hy : Lg b y) (hab : a + b ≤ 100) (h : ∀ t' k, Q (.str (x ++ y) t') { s with toks := k }) : wpAny (model prog w) A (inplaceOp .Add (.str x t) (.str y u)) Q E s :=
  SBL.iadd (fun t' k _ => h t' k) (by
    have : sizeLine = 16777216 := by decide
    unfold Lg at *
    omega)
local macro_rules | `(tactic| k_room) => `(tactic| ((try simp only [depth_under_make, depth_under_kw, depth_in1, depth_deeper, depth_caller] at *); (try dsimp only [ktrTop] at *); (simp only [recursionLimit] at *); omega))
local macro_rules | `(tactic| walk_at "mine enter") => `(tactic| (refine' code_kept ?k1 ?k2 ?k3 ?k4 ?k5 ?kA ?kF ?kK ?k6 ?k7 ?k8 ?k9 ?kB ?_ ?c2 ?c3 ?c4 ?c5; (case kA => exact rfl); (case kF => exact rfl); (case kK => first | exact rfl | assumption); (case k1 => k_asm); (case k2 => k_asm); (case k3 => k_asm); (case k4 => k_asm); (case k5 => k_asm); (case k6 => k_is); (case k7 => k_is); (case k8 => k_room); (case k9 => exact BindsTo.of_eq rfl); (case c5 => decide); (case kB => exact locs rfl); (case c2 => exact rfl); (case c3 => exact rfl); (case c4 => exact rfl)))
local macro_rules | `(tactic| walk_at "binaryOp Add str str") => `(tactic| (k_here; (with_reducible show wpAny _ _ (binaryOp Operator.Add (Value.str _ _) (Value.str _ _)) _ _ _); (refine add_K (by assumption) (by assumption) (by decide) ?_); intro _ _ lgM'))
local macro_rules | `(tactic| walk_at "inplaceOp Add") => `(tactic| (k_here; (with_reducible show wpAny _ _ (inplaceOp Operator.Add (Value.str _ _) (Value.str _ _)) _ _ _); (refine iaddS_K (by assumption) (by assumption) (by decide) ?_); intro _ _))
local macro_rules | `(tactic| walk_at "InvEndN") => `(tactic| (refine hold_stop ?_))
local macro_rules | `(tactic| walk_at "pyIter ref") => `(tactic| (with_reducible refine hold_on ?_))
def stopT (P : Prop) : Prop := P
theorem hold_stop {P : Prop} (h : stopT P) : P := h
/-- the sign is one of the two that need a shield -/
def shd (sg : Str) : Bool := !(Builtin.Str.occurrences (Str.ofString "\"\\") sg 0 (Str.ofString "\"\\").length 1).isEmpty
def tword (sg : Str) (num k : Int) : Str :=
  (if (num.fdiv (k + 1)).fmod 2 = 1 then Str.ofString "\"" ++ (if shd sg then Str.ofString "\\" ++ sg else sg) ++ Str.ofString "\"" else Str.ofString "\\" ++ sg) ++ Txt.item (Str.ofString " \n") (((num + k).fdiv 2).fmod 2)
def tx (sg : Str) (num : Int) : Nat → Str
  | 0 => Str.ofString ""
  | n + 1 => tx sg num n ++ tword sg num n
def TxJ (sg : Str) (num : Int) (m₀ : Str → Option Value) (i : Nat) (m : Str → Option Value) (nx : List (Addr × Obj)) : Prop :=
  nx = [] ∧ (∃ t, m (Str.ofString "text") = some (.str (tx sg num i) t)) ∧ ∀ z, z ≠ Str.ofString "k" → z ≠ Str.ofString "text" → [Str.ofString "shielded", Str.ofString "word"].contains z = false → m z = m₀ z
theorem rks_get {n i : Nat} {k : Int} (h : (rangeKs 0 n)[i]? = some k) : k = (i : Int) ∧ i < n := by
  unfold rangeKs at h
  rw [List.getElem?_map] at h
  by_cases hi : i < n
  · rw [List.getElem?_range hi] at h
    simp at h
    exact ⟨h.symm, hi⟩
  · rw [List.getElem?_eq_none (by simp; omega)] at h
    cases h
theorem sep_len (j : Int) : (Txt.item (Str.ofString " \n") (j.fmod 2)).length = 1 := by
  have h0 : 0 ≤ j.fmod 2 := Int.fmod_nonneg_of_pos _ (by decide)
  have h1 : j.fmod 2 < 2 := Int.fmod_lt_of_pos _ (by decide)
  have h2 : (Str.ofString " \n").length = 2 := by decide
  rw [item_meets ⟨h0, by rw [h2]; exact h1⟩]
  rfl
theorem tword_len {sg : Str} (hg : sg.length = 1) (num k : Int) : (tword sg num k).length ≤ 5 := by
  unfold tword
  have h1 : (Str.ofString "\"").length = 1 := by decide
  have h2 : (Str.ofString "\\").length = 1 := by decide
  have h3 := sep_len ((num + k).fdiv 2)
  repeat' split
  all_goals (simp only [Str.length_append]; omega)
theorem tx_len {sg : Str} (hg : sg.length = 1) (num : Int) : ∀ n, (tx sg num n).length ≤ 5 * n
  | 0 => Nat.le_refl 0
  | n + 1 => by
    have := tx_len hg num n
    have := tword_len hg num n
    unfold tx
    rw [Str.length_append]
    omega
theorem text_ok {w : World} {mean : ExcName → Option Value} {mg mb : Str → Option Value} {p : Program} {loose : List Str}
    {dp un : Nat} {gd : Option (List Code)} {cn : Str} {cs : Scope} {a : Addr} {ccd : Value} {cl : List (Str × Addr)} {outer : List Env} {A₀ : Around} {base h₀ : Heap} {L : Addr} {m : Str → Option Value} {s : Shared}
    {tg tc tn : Tok} {sg : Str} {num cnt : Int} {R : Result → Shared → Prop}
    (BB : Below A₀ base outer h₀) (FF : Fr h₀ L s.heap m) (X : (Mine.hd.heap_39 w.params).In h₀) (N : News h₀ L s.heap [])
    (T : Top p loose mean mg mb h₀) (hk : cs.kind = .function) (hd : dp < 530) (hn : 0 ≤ num ∧ num ≤ 1000000) (hc : 2 ≤ cnt ∧ cnt ≤ 25) (hg : sg.length = 1)
    (hret : ∀ h' tk' t', Fr h₀ L h' m → News h₀ L h' [] → Kept s.heap [] h' → R (.ok (.ret (.str (tx sg num cnt.toNat) t'))) { s with heap := h', toks := tk' }) :
    codeAny (model PySem.Challenge.rw_oc0403_01.row.prog w) (ktrTop dp un gd cn cs L a ccd cl outer) (.call (.ref 75) ⟨[.str sg tg, .int cnt tc, .int num tn], []⟩) R s := by
  have dummy : PySem.Challenge.rw_oc0403_01.prog = PySem.Challenge.rw_oc0403_01.prog ∧ Mine.hd.heap_39 = Mine.hd.heap_39 := by
    k_fill
    exact ⟨rfl, rfl⟩
  clear dummy
  w_on
  k_dflt walk_at "mine enter"
  intro g' L' h' KG' FG' F' N' B' X' T' l1
  clear l1
  (try dsimp only)
  refine wpAny_noRaise ?_
  k_fold
  k_steps
  rename Fr _ _ _ _ => F0
  rename News _ _ _ _ => N0
  rename IsRange _ _ _ _ _ _ _ _ => R0
  refine hold_off ?_
  k_dflt (refine kpr_invN (n := (cnt - 0).toNat) (TxJ sg num _) rfl R0 (small_one (by l_bnd) (by l_bnd) (by l_bnd) (by l_bnd)) (rangeSize_nat _ _) F0 N0 ⟨rfl, ⟨_, rfl⟩, fun _ _ _ _ => rfl⟩ ?_ ?_)
  · rintro i k t m₁ nx h tk own hk hoff ⟨rfl, ⟨ta, ha⟩, hm⟩ F1 N1
    rw [kpf_map1 ha hm] at F1
    simp only [List.nil_append] at N1
    clear F0 N0 R0
    obtain ⟨rfl, hi⟩ := rks_get hk
    have hi0 : (0 : Int) ≤ (i : Int) := by omega
    have hi1 : (i : Int) ≤ 25 := by omega
    have lg0 : Lg 1 sg := by unfold Lg; omega
    have lg1 : Lg 1 (Str.ofString "\"") := by unfold Lg; decide
    have lg2 : Lg 1 (Str.ofString "\\") := by unfold Lg; decide
    have lg3 : Lg 1 (Txt.item (Str.ofString " \n") (((num + i).fdiv 2).fmod 2)) := by unfold Lg; rw [sep_len]; decide
    have lg4 : Lg 1 (tx sg num i) := by have := tx_len hg num i; unfold Lg; omega
    k_steps
    all_goals (
      rename Fr _ _ _ _ => F9
      rename News _ _ _ _ => N9
      dsimp only at F9
      have hx : tx sg num (i + 1) = tx sg num i ++ tword sg num i := rfl
      rename (Builtin.Str.occurrences _ _ _ _ _).isEmpty = _ => ho
      have hs9 : shd sg = !(Builtin.Str.occurrences (Str.ofString "\"\\") sg 0 (Str.ofString "\"\\").length 1).isEmpty := rfl
      rw [ho] at hs9
      simp only [tword, hs9] at hx
      first
        | (rename ((num.fdiv (_ + 1)).fmod 2) = 1 => hm9; simp only [hm9, if_pos] at hx)
        | (rename ¬ ((num.fdiv (_ + 1)).fmod 2) = 1 => hm9; simp only [hm9, if_neg, not_false_eq_true] at hx)
      (try simp only [Bool.not_true, Bool.not_false, if_true, if_false, Bool.false_eq_true] at hx)
      refine InvEndN.intro (nx := []) F9 N9 ⟨rfl, ?_, ?_⟩ rfl (fun p hp => nomatch hp) (fun p hp => hp)
      · rw [hx]; exact ⟨_, rfl⟩
      · intro z h1 h2 h3
        have h4 : z ≠ Str.ofString "shielded" := by rintro rfl; exact absurd h3 (by decide)
        have h5 : z ≠ Str.ofString "word" := by rintro rfl; exact absurd h3 (by decide)
        simp only [if_neg h1, if_neg h2, if_neg h4, if_neg h5, h3, Bool.false_eq_true, if_false])
  · rintro m₁ nx h tk ⟨rfl, ⟨ta, ha⟩, hm⟩ F1 N1
    have e9 : (rangeKs 0 (cnt - 0).toNat).length = cnt.toNat := by rw [rangeKs_length, Int.sub_zero]
    rw [e9] at ha
    rw [← kpf_done1 ha hm] at F1
    k_steps
    rename Fr h₀ L _ _ => FE
    rename News h₀ L _ _ => NE
    exact hret _ _ _ FE NE (KG'.fr F1)
end Mine
end
section
open PySem PySem.W PyProof.Rows
namespace Mine
local macro_rules | `(tactic| k_room) => `(tactic| ((try simp only [depth_under_make, depth_under_kw, depth_in1, depth_deeper, depth_caller] at *); (try dsimp only [ktrTop] at *); (simp only [recursionLimit] at *); omega))
local macro_rules | `(tactic| k_enter) => `(tactic| first
  | (refine' code_def ?k1 ?k2 ?k3 ?k4 ?k5 ?kA ?kF ?kK ?k6 ?k7 ?k8 ?k9 ?kB ?_ ?c2 ?c3 ?c4 ?c5; (case kA => exact rfl); (case kF => exact rfl); (case kK => first | exact rfl | assumption); (case k1 => k_asm); (case k2 => k_asm); (case k3 => k_asm); (case k4 => k_asm); (case k5 => k_asm); (case k6 => k_is); (case k7 => k_is); (case k8 => k_room); (case k9 => first | exact BindsTo.of_eq rfl | exact binds_K (by k_in) rfl (by k_is) rfl rfl rfl | fail "k_enter: no rule for these arguments"); (case c5 => decide); (case kB => exact locs rfl); (case c2 => exact rfl); (case c3 => exact rfl); (case c4 => exact rfl); k_whole; intro g' L' h' FG' F' N' B' X' T'; (try dsimp only); (try k_lift B'); (try k_fold))
  | (refine' code_defC ?k1 ?k2 ?k3 ?k4 ?k5 ?kA ?kF ?kK ?k6 ?k7 ?k8 ?k9 ?kB ?kD ?_ ?c2 ?c3 ?c4; (case kA => exact rfl); (case kF => exact rfl); (case kK => first | exact rfl | assumption); (case k1 => k_asm); (case k2 => k_asm); (case k3 => k_asm); (case k4 => k_asm); (case k5 => k_asm); (case k6 => k_is); (case k7 => k_is); (case k8 => k_room); (case k9 => first | exact BindsTo.of_eq rfl | exact binds_K (by k_in) rfl (by k_is) rfl rfl rfl | fail "k_enter: no rule for these arguments"); (case kB => exact rfl); (case kD => decide +kernel); (case c2 => exact rfl); (case c3 => exact rfl); (case c4 => exact rfl); k_whole; intro g' L' h' tk' cells' FG' F' N' Y' B' X' T' l1; (try k_lt l1); k_cells Y'; (try simp only [List.cons_append, List.nil_append] at N'); (try dsimp only); (try k_lift B'); (try k_fold)))
local macro_rules | `(tactic| walk_at "mine enterC") => `(tactic| (refine' code_keptC ?k1 ?k2 ?k3 ?k4 ?k5 ?kA ?kF ?kK ?k6 ?k7 ?k8 ?k9 ?kB ?kD ?_ ?c2 ?c3 ?c4; (case kA => exact rfl); (case kF => exact rfl); (case kK => first | exact rfl | assumption); (case k1 => k_asm); (case k2 => k_asm); (case k3 => k_asm); (case k4 => k_asm); (case k5 => k_asm); (case k6 => k_is); (case k7 => k_is); (case k8 => k_room); (case k9 => exact BindsTo.of_eq rfl); (case kB => exact rfl); (case kD => decide +kernel); (case c2 => exact rfl); (case c3 => exact rfl); (case c4 => exact rfl)))
theorem mk_lw {w : World} {h₀ h' : Heap} {L : Addr} {lx dlx st dst fp cc pb0 pb gone cT cG sg c0 : Addr} {qual text : Str} {dc pm ct : Value} {oc oT oG o1 o2 o3 : Obj} {vs : Array Value} {tt tq t1 t2 t3 t4 t5 t6 u1 u2 u3 u4 u5 u6 u7 : Tok}
    (N : News h₀ L h' [(pb, listOf #[] 0), (lx, instObj 52 dlx),
      (dlx, dictOf [⟨PyData.keyHash w.params (Str.ofString "lineno"), .str (Str.ofString "lineno") t1, .int 1 t2⟩, ⟨PyData.keyHash w.params (Str.ofString "instream"), .str (Str.ofString "instream") t3, .ref st⟩, ⟨PyData.keyHash w.params (Str.ofString "whitespace"), .str (Str.ofString "whitespace") t4, .str (Str.ofString "\n\t\x0d ") t5⟩, ⟨PyData.keyHash w.params (Str.ofString "pushback"), .str (Str.ofString "pushback") t6, .ref pb⟩] 4),
      (fp, fnMade (Str.ofString "_law_piece") qual pieceArgs pieceBody pieceScope [(Str.ofString "text", cT), (Str.ofString "gone", cG)] dc pm cc ct), (cc, oc), (gone, listOf #[] 0), (pb0, listOf #[] 0), (st, instObj 52 dst),
      (dst, dictOf [⟨PyData.keyHash w.params (Str.ofString "lineno"), .str (Str.ofString "lineno") u1, .int 1 u2⟩, ⟨PyData.keyHash w.params (Str.ofString "instream"), .str (Str.ofString "instream") u3, .none⟩, ⟨PyData.keyHash w.params (Str.ofString "whitespace"), .str (Str.ofString "whitespace") u4, .str (Str.ofString "\n\t\x0d ") u5⟩, ⟨PyData.keyHash w.params (Str.ofString "pushback"), .str (Str.ofString "pushback") u6, .ref pb0⟩, ⟨PyData.keyHash w.params (Str.ofString "read"), .str (Str.ofString "read") u7, .ref fp⟩] 5),
      (cG, oG), (cT, oT), (58, o3), (sg, o1), (c0, o2)])
    (h1 : oT.data = .cell (some (.str text tt))) (h2 : oG.data = .cell (some (.ref gone))) (h3 : oc.data = .fields vs) (h4 : vs[1]? = some (.str qual tq))
    (hg : @LT.lt Nat _ 58 cT ∧ @LT.lt Nat _ cT cG ∧ @LT.lt Nat _ cG dst ∧ @LT.lt Nat _ dst st ∧ @LT.lt Nat _ st pb0 ∧ @LT.lt Nat _ pb0 gone ∧ @LT.lt Nat _ gone cc ∧ @LT.lt Nat _ cc fp ∧ @LT.lt Nat _ fp dlx ∧ @LT.lt Nat _ dlx lx ∧ @LT.lt Nat _ lx pb)
    (hn : text.length ≤ 1000) :
    ∃ x : LW, x.Ok ∧ x.lx = lx ∧ x.text = text ∧ x.cT = cT ∧ News h₀ L h' (lexNews w x #[] 0 1 t2 ++ [(x.pb, listOf #[] 0), (sg, o1), (c0, o2), (58, o3)]) := by
  refine ⟨⟨lx, dlx, st, dst, fp, cc, pb0, pb, gone, cT, cG, qual, text, dc, pm, ct, oc, oT, oG, vs, tt, tq, t1, t3, t4, t5, t6, u1, u2, u3, u4, u5, u6, u7⟩, ⟨h1, h2, h3, h4, hg, hn⟩, rfl, rfl, rfl, nsub N ?_⟩
  dsimp only [lexNews, lexDict, List.cons_append, List.nil_append]
  k_allIn
theorem lexer_ok {w : World} {mean : ExcName → Option Value} {mg mb : Str → Option Value} {p : Program} {loose : List Str}
    {dp un : Nat} {gd : Option (List Code)} {cn : Str} {cs : Scope} {a : Addr} {ccd : Value} {cl : List (Str × Addr)} {outer : List Env} {A₀ : Around} {base h₀ : Heap} {L : Addr} {m : Str → Option Value} {s : Shared}
    {text : Str} {tt : Tok} {sg c0 : Addr} {o1 o2 : Obj} {R : Result → Shared → Prop}
    (B : Below A₀ base outer h₀) (F : Fr h₀ L s.heap m) (X : (Mine.hd.heap_39 w.params).In h₀) (N : News h₀ L s.heap [(58, tabObj #[]), (sg, o1), (c0, o2)]) (T : Top p loose mean mg mb h₀) (hcd : CodeHd base 62 58) (hk : cs.kind = .function)
    (hd : dp < 530) (hn : text.length ≤ 1000) (h58 : @Ne Nat 58 sg) (h59 : @LT.lt Nat _ 58 c0)
    (hret : ∀ h' tk' x t2 tb, x.Ok → x.text = text → @LT.lt Nat _ sg x.cT → @LT.lt Nat _ c0 x.cT → Fr h₀ L h' m → News h₀ L h' (lexNews w x #[] 0 1 t2 ++ [(x.pb, listOf #[] 0), (sg, o1), (c0, o2), (58, tabObj tb)]) →
      Kept s.heap [(58, tabObj #[]), (sg, o1), (c0, o2)] h' → R (.ok (.ret (.ref x.lx))) { s with heap := h', toks := tk' }) :
    codeAny (model PySem.Challenge.rw_oc0403_01.row.prog w) (ktrTop dp un gd cn cs L a ccd cl outer) (.call (.ref 63) ⟨[.str text tt], []⟩) R s := by
  have dummy : PySem.Challenge.rw_oc0403_01.prog = PySem.Challenge.rw_oc0403_01.prog ∧ Mine.hd.heap_39 = Mine.hd.heap_39 := by
    k_fill
    exact ⟨rfl, rfl⟩
  clear dummy
  w_on
  k_dflt walk_at "mine enterC"
  intro g' L' h' tk' cells' KG' FG' F' N' Y' B' X' T' l1
  k_lt l1
  k_cells Y'
  simp only [List.cons_append, List.nil_append] at N'
  (try dsimp only)
  refine wpAny_noRaise ?_
  k_fold
  k_steps
  rename Fr h₀ L _ _ => FE
  rename News h₀ L _ _ => NE
  rename Fr g' L' _ _ => FI
  (try dsimp only at NE)
  have hx := mk_lw NE (by assumption) (by assumption) (by assumption) (by assumption) (by omega) hn
  obtain ⟨x, ok, e1, e2, e3, NX⟩ := hx
  subst e1
  exact hret _ _ x _ _ ok e2 (by rw [e3]; omega) (by rw [e3]; omega) FE NX (KG'.fr FI)
end Mine
end
section
open PySem PySem.W PyProof.Rows
namespace Mine
def lawStmt : Stmt := match PySem.Challenge.pw_oc0403_01.main.body with
  | _ :: _ :: _ :: _ :: _ :: _ :: _ :: _ :: d :: _ => d
  | _ => .Pass ⟨0, 0, 0, 0⟩
def lawScope : Scope := match lawStmt with
  | .FunctionDef _ _ _ _ _ _ sc _ _ _ => sc
  | _ => ⟨.module, [], false, false, []⟩
def lawTail : List Stmt := match lawStmt with
  | .FunctionDef _ _ (_ :: _ :: b) _ _ _ _ _ _ _ => b
  | _ => []
def lawTail2 : List Stmt := match lawTail with
  | _ :: _ :: _ :: _ :: _ :: b => b
  | _ => []
theorem sgn_len (j : Int) : (sgn j).length = 1 := by
  have h0 : 0 ≤ j.fmod 6 := Int.fmod_nonneg_of_pos _ (by decide)
  have h1 : j.fmod 6 < 6 := Int.fmod_lt_of_pos _ (by decide)
  have h2 : (Str.ofString "x# \"\\\n").length = 6 := by decide
  unfold sgn
  rw [item_meets ⟨h0, by rw [h2]; exact h1⟩]
  rfl
theorem hold_off' {P : Prop} (h : P) : stopT P := h
section
variable {prog : Program} {w : World} {A : Around} {h₀ : Heap} {L : Addr} {m : Str → Option Value} {env : Env} {elt : Expr} {x : Str} {scope : Scope} {cl : List (Str × Addr)} {s : Shared} {S : List (Addr × Obj) → Prop} {P : Nat → Value → Prop} {Fin : List Value → List (Addr × Obj) → Prop} {news : List (Addr × Obj)}
/-- a list comprehension whose element changes the ledger -/
theorem comp_inv {n : Nat} (J : Nat → List Value → List (Addr × Obj) → Prop) (h0 : J 0 [] news)
    (turn : ∀ i v ys nx I oI C oC D m₂ h tk (E' : Value → Shared → Prop), i < n → J i ys nx → P i v → LCg.NsObj oC m₂ → m₂ x = some v → Fr h₀ L h m → News h₀ L h ((I, oI) :: (C, oC) :: (D, LCg.lst ys) :: nx) → LCg.Off3 I C D nx → ((@Ne Nat I C) ∧ (@Ne Nat I D) ∧ (@Ne Nat C D)) →
      wpAny (model prog w) A (eval elt (compEnvC scope cl C env)) (LCg.CompEnd h₀ L m { s with heap := h, toks := tk } I oI C oC D (LCg.lst ys) S (fun y news' => J (i + 1) (ys ++ [y]) news')) E' { s with heap := h, toks := tk })
    (fin : ∀ ys nx, J n ys nx → Fin ys nx) : LCg.CompRest prog w A h₀ L m env elt x scope cl s S P Fin n 0 [] news := by
  have key : ∀ (j i : Nat) (ys : List Value) nx, i + j = n → J i ys nx → LCg.CompRest prog w A h₀ L m env elt x scope cl s S P Fin j i ys nx := by
    intro j
    induction j with
    | zero =>
      intro i ys nx hi hy
      have e : i = n := by omega
      subst e
      exact LCg.CompRest.zero (fin ys nx hy)
    | succ j ih =>
      intro i ys nx hi hy
      refine LCg.CompRest.succ ?_
      intro v I oI C oC D m₂ h tk E' hv hC hx F N off ne
      refine wpAny_mono (turn i v ys nx I oI C oC D m₂ h tk E' (by omega) hy hv hC hx F N off ne) (fun y s₂ hq => ?_) fun _ _ e => e
      obtain ⟨h', tk', nw, e, F', N', off', hS, hj⟩ := hq
      exact ⟨h', tk', nw, e, F', N', off', hS, ih (i + 1) _ _ (by omega) hj⟩
  exact key n 0 [] news (by omega) h0
end
/-- the words that are read one after the other, and the line's number behind them -/
def Toks (ln : Int) (T : List Nat) : List Str → Int → Prop
  | [], e => e = ln
  | y :: r, e => ∃ ln1 d, lexO ln T = some (y, ln1, d) ∧ d ≤ T.length ∧ Toks ln1 (T.drop d) r e
/-- between two words -/
def WordJ (w : World) (x : LW) (T : List Nat) (wds : List Str) (e : Int) (rest : List (Addr × Obj)) (i : Nat) (ys : List Value) (nx : List (Addr × Obj)) : Prop :=
  ∃ items ne t2 ln, nx = lexNews w x items ne ln t2 ++ rest ∧ items.size ≤ T.length ∧ Toks ln (T.drop items.size) (wds.drop i) e ∧ StrsAre ys (wds.take i)
theorem lex_off {w : World} {x : LW} {items : Array Value} {ne : Nat} {ln : Int} {t2 : Tok} {o : Obj} {a : Addr} (ok : x.Ok) (ha : @LT.lt Nat _ a x.cT) : a ∉ (lexNews w x items ne ln t2 ++ [(x.pb, o)]).map (·.1) := by
  have hgo := ok.hg
  intro hm
  dsimp only [lexNews, List.map, List.cons_append, List.nil_append] at hm
  simp only [List.mem_cons, List.not_mem_nil, or_false] at hm
  rcases hm with h | h | h | h | h | h | h | h | h | h <;> (have h' : @Eq Nat a _ := h; omega)
section
variable {prog : Program} {w : World} {A : Around} {E : Value → Shared → Prop} {s : Shared} {env : Env} {h₀ : Heap} {x : Str} {body : List Stmt} {Q : Flow → Shared → Prop}
/-- a loop over a list that is not in the base -/
theorem iter_own {l : Addr} {vs : List Value} {m₀ : Str → Option Value} {news : List (Addr × Obj)} (J : Nat → (Str → Option Value) → List (Addr × Obj) → Prop)
    (hh : A.handled = none) (hl : s.heap.IsList l vs.toArray) (hL : env.locals ≠ l) (hnl : ∀ q ∈ news, q.1 ≠ l) (F : Fr h₀ env.locals s.heap m₀) (N : News h₀ env.locals s.heap news) (hj : J 0 m₀ news)
    (turn : ∀ i v m₁ news₁ h tk own, vs[i]? = some v → news₁.map (·.1) = news.map (·.1) → OwnOff own (news.map (·.1)) → J i m₁ news₁ → Fr h₀ env.locals h (fun y => if y = x then some v else m₁ y) → News h₀ env.locals h (news₁ ++ own) →
      wpAny (model prog w) A (execs body env) (InvPostN h₀ env.locals (J (i + 1)) own (news.map (·.1)) { s with heap := h, toks := tk } Q) E { s with heap := h, toks := tk })
    (done : ∀ m₁ news₁ h tk, J vs.length m₁ news₁ → Fr h₀ env.locals h m₁ → News h₀ env.locals h news₁ → Q .next { s with heap := h, toks := tk }) :
    wpAny (model prog w) A (pyIter (.ref l)) (fun it s₂ => LoopAtV prog w A h₀ env x body Q E it s₂) E s := by
  obtain ⟨ol, hol, _⟩ := id hl
  have hlt : l < s.heap.objs.size := Heap.lt_size hol
  have hne : l ≠ s.heap.objs.size := Nat.ne_of_lt hlt
  refine wpAny_pyIter_list hl ?_
  have W := Walks.list (prog := prog) (w := w) hh s.heap.objs.size l hne vs.toArray
  have hlen : vs.toArray.size = vs.length := by simp
  rw [hlen] at W
  refine loop_invN J W ?_ ?_ ?_ ?_ ⟨⟨_, Heap.get?_push_size _ rfl, rfl, rfl⟩, hl.at fun o e => Heap.get?_push_of_some _ e⟩ (F.push _) (fun p hp => ⟨Heap.get?_push_of_some _ (N p hp).1, (N p hp).2⟩) hj ?_ done
  · intro hm
    rcases List.mem_cons.mp hm with e | hm
    · exact absurd F.ns.lt (e ▸ Nat.lt_irrefl _)
    · exact hL (List.mem_singleton.mp hm)
  · intro b hb
    rw [List.mem_singleton.mp hb]
    exact next_is_new F
  · intro p hp hI
    exact absurd (Heap.lt_size (N p hp).1) ((List.mem_singleton.mp hI) ▸ Nat.lt_irrefl _)
  · intro q hq hm
    rcases List.mem_cons.mp hm with e | hm
    · exact absurd (Heap.lt_size (N q hq).1) (e ▸ Nat.lt_irrefl _)
    · exact hnl q hq (List.mem_singleton.mp hm)
  · intro i v m₁ news₁ h tk own hi hP hadr hoff hJ F₁ N₁
    exact turn i v m₁ news₁ h tk own (by simpa using hP) hadr hoff hJ F₁ N₁
/-- two data that are read alike -/
theorem eq_alike {a b : Value} {d : PyData} {as bs : List Addr} {Q : Value → Shared → Prop} (ra : Reads s.heap a d as) (rb : Reads s.heap b d bs) (hd : SeqAt.shaped d = true) (hu : A.units + 64 < cLine) (h : Q (.bool true) s) :
    wpAny (model prog w) A (compareOp .Eq a b) Q E s :=
  eq_dataH ra rb hd hd hu (by rw [SeqAt.eqv_refl d (SeqAt.canLay_of_shaped hd)]; exact h)
theorem ne_alike {a b : Value} {d : PyData} {as bs : List Addr} {Q : Value → Shared → Prop} (ra : Reads s.heap a d as) (rb : Reads s.heap b d bs) (hd : SeqAt.shaped d = true) (hu : A.units + 64 < cLine) (h : Q (.bool false) s) :
    wpAny (model prog w) A (compareOp .NotEq a b) Q E s :=
  ne_dataH ra rb hd hd hu (by rw [SeqAt.eqv_refl d (SeqAt.canLay_of_shaped hd)]; exact h)
end
theorem lay_strs : ∀ {ws : List Str}, (∀ y ∈ ws, PyData.strOk y = true) → PyData.canLayAll0 (ws.map PyData.str) = true
  | [], _ => rfl
  | y :: r, h => by
    simp only [List.map_cons, PyData.canLayAll0, PyData.canLay0, h y (.head _), lay_strs fun z hz => h z (.tail _ hz), Bool.and_self]
theorem depth_strs : ∀ (ws : List Str), PyData.depthAll (ws.map PyData.str) = 0
  | [] => rfl
  | y :: r => by simp [PyData.depthAll, PyData.depth, depth_strs r]
theorem shaped_strs {ws : List Str} (h : ∀ y ∈ ws, PyData.strOk y = true) : SeqAt.shaped (.list (ws.map PyData.str)) = true := by
  simp [SeqAt.shaped, PyData.canLay0, PyData.depth, lay_strs h, depth_strs]
theorem shaped_pair {ws : List Str} {n : Int} (h : ∀ y ∈ ws, PyData.strOk y = true) : SeqAt.shaped (.tuple [.list (ws.map PyData.str), .int n]) = true := by
  simp [SeqAt.shaped, PyData.canLay0, PyData.canLayAll0, PyData.depthAll, PyData.depth, lay_strs h, depth_strs]
/-- between two pushes -/
def PushJ (w : World) (x : LW) (ln : Int) (t2 : Tok) (vs : List Value) (rest : List (Addr × Obj)) (m₀ : Str → Option Value) (i : Nat) (m : Str → Option Value) (nx : List (Addr × Obj)) : Prop :=
  (∃ nb, nx = pbNews w x (vs.take i) nb ln t2 ++ rest) ∧ ∀ z, z ≠ Str.ofString "word" → m z = m₀ z
theorem strs_rep {A : Str} {t : Tok} : ∀ n, StrsAre (List.replicate n (.str A t)) (List.replicate n A)
  | 0 => .nil
  | n + 1 => .cons _ _ (strs_rep n)
end Mine
end
section
open PySem PySem.W PyProof.Rows
namespace Mine
local macro_rules | `(tactic| k_room) => `(tactic| ((try simp only [depth_under_make, depth_under_kw, depth_in1, depth_deeper, depth_caller] at *); (try dsimp only [ktrTop] at *); (simp only [recursionLimit] at *); omega))
local macro_rules | `(tactic| walk_at "call ref") => `(tactic| (with_reducible refine hold_on ?_))
local macro_rules | `(tactic| walk_at "exec Assign cons ListComp") => `(tactic| (k_here; k_dflt (refine LCg.Assign_ListComp_U (F₀ := by k_asm) (by rfl) (by with_unfolding_all rfl) (by with_unfolding_all rfl) (by decide) (by rfl) (by decide) (by rfl) (by rfl) (by rfl) ?_)))
local macro_rules | `(tactic| walk_at "CompSrc") => `(tactic| (refine hold_stop ?_))
local macro_rules | `(tactic| walk_at "binaryOp Mult ref int") => `(tactic| (with_reducible refine hold_on ?_))
local macro_rules | `(tactic| walk_at "binaryOp Add ref ref") => `(tactic| (with_reducible refine hold_on ?_))
local macro_rules | `(tactic| walk_at "compareOp NotEq ref ref") => `(tactic| (with_reducible refine hold_on ?_))
local macro_rules | `(tactic| walk_at "exec For") => `(tactic| (k_here; k_dflt (refine For_invVF (by k_asm) (by rfl) (by rfl) ?_)))
local macro_rules | `(tactic| walk_at "pyIter ref") => `(tactic| (with_reducible refine hold_on ?_))
local macro_rules | `(tactic| walk_at "InvEndN") => `(tactic| (refine hold_stop ?_))
local macro_rules | `(tactic| walk_at "CompEnd") => `(tactic| (refine hold_stop ?_))
theorem rest_off {w : World} {x : LW} {vs : List Value} {nb : Nat} {ln : Int} {t2 : Tok} {sg L : Addr} {o1 o2 o3 : Obj} (hg : @LT.lt Nat _ 58 x.dlx ∧ @LT.lt Nat _ sg x.dlx ∧ @LT.lt Nat _ (L + 1) x.dlx ∧ @LT.lt Nat _ x.dlx x.lx ∧ @LT.lt Nat _ x.lx x.pb) :
    ∀ p ∈ [(sg, o1), (L + 1, o2), (58, o3)], p.1 ∉ (pbNews w x vs nb ln t2).map (·.1) := by
  intro p hp hm
  dsimp only [pbNews, List.map] at hm
  simp only [List.mem_cons, List.not_mem_nil, or_false] at hp hm
  rcases hp with rfl | rfl | rfl <;> rcases hm with h | h | h <;> (have h' : @Eq Nat _ _ := h; dsimp only at h'; omega)
theorem tail2_ok {w : World} {mean : ExcName → Option Value} {mg mb : Str → Option Value} {p : Program} {loose : List Str}
    {fa : Addr} {cd : Value} {base : Heap} {L D sg : Addr} {m0 : Str → Option Value} {s : Shared} {cnt ln : Int} {ta tb tc tt tn t2 : Tok} {ys : List Value} {text A B C : Str} {x : LW} {o' : Obj} {tab : Array Value} {Q : Flow → Shared → Prop} {E : Value → Shared → Prop}
    (BB : Below callerA base [] base) (FF : Fr base L s.heap (fun z => if z = Str.ofString "words" then some (.ref D) else if z = Str.ofString "text" then some (.str text tt) else if z = Str.ofString "signs" then some (.ref sg) else if z = Str.ofString "count" then some (.int cnt tn) else m0 z)) (X : (Mine.hd.heap_39 w.params).In base)
    (N : News base L s.heap [(D, LCg.lst ys), (x.dlx, lexDict w x ln t2), (x.lx, instObj 52 x.dlx), (x.pb, listOf #[] 0), (sg, listOf #[.str A ta, .str B tb, .str C tc] 3), (L + 1, o'), (58, tabObj tab)])
    (T : Top p loose mean mg mb base)
    (hoc : o'.data = .cell (some (.ref x.lx))) (hg : @LT.lt Nat _ 58 x.dlx ∧ @LT.lt Nat _ sg x.dlx ∧ @LT.lt Nat _ (L + 1) x.dlx ∧ @LT.lt Nat _ x.dlx x.lx ∧ @LT.lt Nat _ x.lx x.pb) (hs : @Ne Nat sg (L + 1) ∧ @Ne Nat sg 58 ∧ @LT.lt Nat _ 58 (L + 1))
    (off2 : @Ne Nat x.dlx D ∧ @Ne Nat x.lx D ∧ @Ne Nat x.pb D ∧ @Ne Nat sg D ∧ @Ne Nat (L + 1) D ∧ @Ne Nat 58 D)
    (hcn : 2 ≤ cnt ∧ cnt ≤ 25) (htl : text.length ≤ 1000) (hst2 : StrsAre ys (List.replicate cnt.toNat A ++ [Str.ofString ""])) (hln : ln = 1 + Txt.count text (Str.ofString "\n"))
    (hA1 : A.length = 1) (hB1 : B.length = 1) (hC1 : C.length = 1) (hAB : A ≠ B) (hAC : A ≠ C) (hBC : B ≠ C) (hkA : PyData.strOk A = true) (hlaw : tagRun A B C 90 (List.replicate cnt.toNat A) = (dueGo A (B ++ C) C 200 cnt []).take 90) (hkL : ∀ y ∈ tagRun A B C 90 (List.replicate cnt.toNat A), PyData.strOk y = true)
    (hret : ∀ h' tk' m' tb, Fr base L h' m' → News base L h' [(58, tabObj tb)] → Q (.ret (.bool true)) { s with heap := h', toks := tk' }) :
    wpAny (model PySem.Challenge.rw_oc0403_01.row.prog w) (callerA.deeper (envOfC (Str.ofString "law") lawScope L fa cd)) (execs lawTail2 (envOfC (Str.ofString "law") lawScope L fa cd)) Q E s := by
  have dummy : PySem.Challenge.rw_oc0403_01.prog = PySem.Challenge.rw_oc0403_01.prog ∧ Mine.hd.heap_39 = Mine.hd.heap_39 := by
    k_fill
    exact ⟨rfl, rfl⟩
  clear dummy
  refine wpAny_noRaise ?_
  conv in (occs := *) lawScope => all_goals whnf
  conv in lawTail2 => whnf
  w_on
  dsimp only [lexDict] at N
  k_steps
  rename Fr _ _ _ _ => F4
  rename News _ _ _ _ => N4
  refine hold_off (KMa.mul F4 N4 (vs := [.str A ta]) (ws := List.replicate cnt.toNat (.str A ta)) (News.isList N4 (.head _)) (by omega) (by omega) (by simp only [List.length_singleton]; omega) (List.flatten_replicate_singleton) ?_)
  clear F4 N4
  intro D' h' F' N' l1
  k_lt l1
  dsimp only at F' N' ⊢
  k_steps
  rename Fr _ _ _ _ => F4
  rename News _ _ _ _ => N4
  refine hold_off (kmk_add_lit F4 N4 (zs := List.replicate cnt.toNat (.str A ta) ++ [_]) (News.isList N4 (.tail _ (.head _))) (News.isList N4 (.head _)) rfl ?_ (by rw [PySem.sizeLine_eq]; simp only [List.length_replicate, List.length_singleton]; omega))
  clear F4 N4
  intro D2 h2 F2 N2 l2
  k_lt l2
  dsimp only at F2 N2 ⊢
  k_steps
  rename Fr _ _ _ _ => F4
  rename News _ _ _ _ => N4
  dsimp only at F4 N4 ⊢
  have hst3 : StrsAre (List.replicate cnt.toNat (Value.str A ta) ++ [Value.str (Str.ofString "") _]) (List.replicate cnt.toNat A ++ [Str.ofString ""]) := strs_app (strs_rep _) (StrsAre.cons _ (s.toks + 1 + 1) .nil)
  have hkw : ∀ y ∈ List.replicate cnt.toNat A ++ [Str.ofString ""], PyData.strOk y = true := by
    intro y hy
    rcases List.mem_append.mp hy with h | h
    · rw [(List.mem_replicate.mp h).2]; exact hkA
    · rw [List.mem_singleton.mp h]; decide +kernel
  refine hold_off (ne_alike (d := .tuple [.list ((List.replicate cnt.toNat A ++ [Str.ofString ""]).map PyData.str), .int ln]) (reads_tuple_at (News.get N4 (by k_mem)) rfl rfl (.cons (reads_list_at (News.get N4 (by k_mem)) rfl rfl (StrsAre.reads _ hst2)) (.cons (Reads.int _ _) .nil))) (by
    rw [hln]
    exact reads_tuple_at (News.get N4 (by k_mem)) rfl rfl (.cons (reads_list_at (News.get N4 (by k_mem)) rfl rfl (StrsAre.reads _ hst3)) (.cons (Reads.int _ _) .nil))) (shaped_pair hkw) (by ke_room) ?_)
  have N5 := nsub (l' := [(D, LCg.lst ys), (x.pb, listOf #[] 0), (x.dlx, lexDict w x ln t2), (x.lx, instObj 52 x.dlx), (sg, listOf #[.str A ta, .str B tb, .str C tc] 3), (L + 1, o'), (58, tabObj tab)]) N4 (by dsimp only [lexDict]; k_allIn)
  clear N4
  have b1 := Heap.lt_size (N5 (x.pb, listOf #[] 0) (by k_mem)).1
  have b2 := Heap.lt_size (N5 (sg, listOf #[.str A ta, .str B tb, .str C tc] 3) (by k_mem)).1
  have b3 := Heap.lt_size (N5 (L + 1, o') (by k_mem)).1
  have b4 := F4.ns.lt
  dsimp only [lexDict] at N5
  k_steps
  (try clear N5); (try clear F4)
  dsimp only
  rename Fr _ _ _ _ => F4
  rename News _ _ _ _ => N4
  dsimp only at N4
  have hpk : slicePick ys.toArray none (some cnt) none = (ys.take cnt.toNat).toArray := by
    have e := slicePick_upto' ys.toArray cnt.toNat
    rw [Int.toNat_of_nonneg (by omega)] at e
    exact e
  rw [hpk] at N4
  have hvs : StrsAre (ys.take cnt.toNat) (List.replicate cnt.toNat A) := by
    have e := strs_take hst2 cnt.toNat
    rw [List.take_left' (by simp)] at e
    exact e
  have hvl : (ys.take cnt.toNat).length = cnt.toNat := by rw [strs_len hvs]; simp
  generalize ys.take cnt.toNat = vs at N4 hvs hvl
  refine hold_off (iter_own (vs := vs) (PushJ w x ln t2 vs [(sg, listOf #[.str A ta, .str B tb, .str C tc] 3), (L + 1, o'), (58, tabObj tab)] _) (news := pbNews w x [] 0 ln t2 ++ [(sg, listOf #[.str A ta, .str B tb, .str C tc] 3), (L + 1, o'), (58, tabObj tab)]) rfl (News.isList N4 (.head _)) ?_ ?_ F4 (nsub N4 (by dsimp only [pbNews, lexDict, List.cons_append, List.nil_append]; k_allIn)) ⟨⟨0, rfl⟩, fun _ _ => rfl⟩ ?_ ?_)
  · intro e
    have e' : @Eq Nat L _ := e
    have b4' : @LT.lt Nat _ L _ := b4
    omega
  · intro q hq e
    have e' : @Eq Nat q.1 _ := e
    dsimp only [pbNews, List.cons_append, List.nil_append] at hq
    simp only [List.mem_cons, List.not_mem_nil, or_false] at hq
    have b1' : @LT.lt Nat _ x.pb _ := b1
    have b2' : @LT.lt Nat _ sg _ := b2
    have b3' : @LT.lt Nat _ (L + 1) _ := b3
    rcases hq with rfl | rfl | rfl | rfl | rfl | rfl <;> (dsimp only at e'; omega)
  · rintro i v m₁ nx h tk own hv hadr hoff ⟨⟨nb, rfl⟩, hm⟩ F5 N5
    rw [map_none hm] at F5
    clear F4 N4
    dsimp only [pbNews, lexDict, List.cons_append, List.nil_append] at N5
    k_steps
    rename Fr _ _ _ _ => F6
    rename News _ _ _ _ => N6
    have hil : i < vs.length := by
      rcases Nat.lt_or_ge i vs.length with h | h
      · exact h
      · rw [List.getElem?_eq_none h] at hv; cases hv
    have ho1 : ∀ p ∈ own, p.1 ∉ (pbNews w x (vs.take i) nb ln t2).map (·.1) := by
      intro p hp hm'
      refine hoff p hp p.1 ?_ rfl
      rw [List.map_append]
      exact List.mem_append_left _ hm'
    refine hold_off (wpAny_call (push_ok (x := x) (vs := vs.take i) (nb := nb) (ln := ln) (t2 := t2) BB F6 X (nsub N6 (by dsimp only [pbNews, lexDict]; k_allIn)) T rfl ⟨hg.2.2.2.1, hg.2.2.2.2⟩ (by decide) (by rw [List.length_take]; omega) ?_))
    intro h7 tk7 F7 N7 K7
    have N8 := nboth N7 (nboth (nkept (nsub (l' := [(sg, listOf #[.str A ta, .str B tb, .str C tc] 3), (L + 1, o'), (58, tabObj tab)]) N6 (by k_allIn)) K7 ?_) (nkept (nsub (l' := own) N6 (fun p hp => by (repeat (first | exact hp | refine List.Mem.tail _ ?_)))) K7 ho1))
    · clear N6 F6 N7 K7
      k_steps
      refine hold_off' (InvEndN.intro (nx := pbNews w x (vs.take i ++ [v]) (nb + 1) ln t2 ++ [(sg, listOf #[.str A ta, .str B tb, .str C tc] 3), (L + 1, o'), (58, tabObj tab)]) F7 N8 ⟨⟨nb + 1, ?_⟩, ?_⟩ rfl ?_ ?_)
      · rw [List.take_add_one, hv]; rfl
      · intro z hz
        simp only [if_neg hz]
      · intro p hp
        rcases List.mem_append.mp hp with h | h
        · exact List.mem_append_left _ h
        · exact List.mem_append_right _ (List.mem_append_left _ h)
      · intro p hp
        exact List.mem_append_right _ (List.mem_append_right _ hp)
    · exact rest_off hg
  · rintro m₁ nx h tk ⟨⟨nb, rfl⟩, hm⟩ F5 N5
    rw [List.take_length] at N5
    rw [← done_none hm] at F5
    clear F4 N4
    dsimp only [pbNews, lexDict, List.cons_append, List.nil_append] at N5
    k_steps
    rename Fr _ _ _ _ => F6
    rename News _ _ _ _ => N6
    refine hold_off (wpAny_call (run_ok (x := x) (sg := sg) (vs := vs) (ws := List.replicate cnt.toNat A) (nb := nb) (ln := ln) (t2 := t2) (A := A) (B := B) (C := C) (ta := ta) (tb := tb) (tc := tc) (ns := 3) BB F6 X (nsub N6 (by dsimp only [pbNews, lexDict, List.cons_append, List.nil_append]; k_allIn)) T rfl ⟨hg.2.1, hg.2.2.2.1, hg.2.2.2.2⟩ (by decide) hAB hAC hBC hA1 hB1 hC1 hvs (fun y hy => .inl (List.mem_replicate.mp hy).2) (by simp; omega) ?_))
    intro h7 tk7 ll ls nl hls hll F7 N7 K7
    have N8 := nboth N7 (nkept (nsub (l' := [(58, tabObj tab)]) N6 (by k_allIn)) K7 ?_)
    · clear N6 F6 N7 K7
      simp only [List.cons_append, List.nil_append] at N8
      k_steps
      rename Fr _ _ _ _ => F6
      rename News _ _ _ _ => N6
      (try clear N8); (try clear F7)
      refine hold_off (wpAny_call (due_ok (sg := sg) (A := A) (B := B) (C := C) (ta := ta) (tb := tb) (tc := tc) (ns := 3) (nb := 0) (cnt := cnt) BB F6 X (nsub N6 (by k_allIn)) T rfl (by decide) hA1 hB1 hC1 hcn ?_))
      intro h7 tk7 dd ds hds F7 N7 K7
      have N8 := nboth N7 (nkept (nsub (l' := [(ll, listOf ls.toArray nl), (58, tabObj tab)]) N6 (by k_allIn)) K7 ?_)
      · clear N6 F6 N7 K7
        simp only [List.cons_append, List.nil_append] at N8
        dsimp only
        rw [← hlaw] at hds
        refine eq_alike (d := .list ((tagRun A B C 90 (List.replicate cnt.toNat A)).map PyData.str)) (reads_list_at (News.get N8 (by k_mem : (ll, listOf ls.toArray nl) ∈ _)) rfl rfl (StrsAre.reads _ hls)) (reads_list_at (News.get N8 (by k_mem : (dd, listOf ds.toArray 0) ∈ _)) rfl rfl (StrsAre.reads _ hds)) (shaped_strs hkL) (by ke_room) ?_
        exact hret _ _ _ _ F7 (nsub N8 (by k_allIn))
      · intro p hp hm'
        simp only [List.map_cons, List.map_nil, List.mem_singleton] at hm'
        have e' : @Eq Nat p.1 sg := hm'
        simp only [List.mem_cons, List.not_mem_nil, or_false] at hp
        rcases hp with rfl | rfl <;> (dsimp only at e'; omega)
    · intro p hp hm'
      rw [List.mem_singleton.mp hp] at hm'
      dsimp only [pbNews, List.map, List.cons_append, List.nil_append] at hm'
      simp only [List.mem_cons, List.not_mem_nil, or_false] at hm'
      rcases hm' with h | h | h | h <;> (have h' : @Eq Nat 58 _ := h; omega)
end Mine
end
section
open PySem PySem.W PyProof.Rows
namespace Mine
theorem two_of {ys : List Value} {ns : List Int} (t5 t7 : Tok) (h : IntsAre ys (List.map (fun k' => k'.fmod (10 ^ Int.toNat 6)) (List.take 2 ns))) :
    ∃ n0 t0 n1 t1, ys ++ (slicePick #[Value.int 5 t5, Value.int 7 t7] (some ((List.map (fun k' => k'.fmod (10 ^ Int.toNat 6)) (List.take 2 ns)).length : Nat)) none none).toList = [.int n0 t0, .int n1 t1] ∧ (0 ≤ n0 ∧ n0 < 1000000) ∧ (0 ≤ n1 ∧ n1 < 1000000) := by
  have hb : ∀ k : Int, 0 ≤ k.fmod (10 ^ Int.toNat 6) ∧ k.fmod (10 ^ Int.toNat 6) < 1000000 := fun k =>
    ⟨Int.fmod_nonneg_of_pos _ (by decide), Int.fmod_lt_of_pos k (b := 1000000) (by decide)⟩
  match ns, h with
  | [], h =>
    cases h
    exact ⟨5, t5, 7, t7, by rw [slicePick_from']; rfl, by decide, by decide⟩
  | [a], h =>
    cases h with
    | cons x u h' =>
      cases h'
      exact ⟨_, u, 7, t7, by rw [slicePick_from']; rfl, hb a, by decide⟩
  | a :: b :: r, h =>
    cases h with
    | cons x u h' =>
      cases h' with
      | cons y v h'' =>
        cases h''
        exact ⟨_, u, _, v, rfl, hb a, hb b⟩
section
variable {prog : Program} {w : World} {A : Around} {E : Value → Shared → Prop} {s : Shared} {h₀ : Heap} {L a b : Addr} {m : Str → Option Value} {news : List (Addr × Obj)} {Q : Value → Shared → Prop}
theorem add_two {ys : List Value} {ns : List Int} {t5 t7 : Tok} (F : Fr h₀ L s.heap m) (N : News h₀ L s.heap news) (ha : s.heap.IsList a ys.toArray)
    (hb : s.heap.IsList b (slicePick #[Value.int 5 t5, Value.int 7 t7] (some ((List.map (fun k' => k'.fmod (10 ^ Int.toNat 6)) (List.take 2 ns)).length : Nat)) none none).toList.toArray)
    (hi : IntsAre ys (List.map (fun k' => k'.fmod (10 ^ Int.toNat 6)) (List.take 2 ns)))
    (h : ∀ D h' n0 t0 n1 t1, 0 ≤ n0 ∧ n0 < 1000000 → 0 ≤ n1 ∧ n1 < 1000000 → Fr h₀ L h' m → News h₀ L h' ((D, listOf #[.int n0 t0, .int n1 t1] 0) :: news) → (∀ p ∈ news, p.1 < D) → Q (.ref D) { s with heap := h' }) :
    wpAny (model prog w) A (binaryOp .Add (.ref a) (.ref b)) Q E s := by
  obtain ⟨n0, t0, n1, t1, e, h0, h1⟩ := two_of t5 t7 hi
  have e' := congrArg List.length e
  rw [List.length_append] at e'
  refine kmk_add_lit F N ha hb (zs := [.int n0 t0, .int n1 t1]) e (fun D h' F' N' l => h D h' n0 t0 n1 t1 h0 h1 F' N' l) ?_
  rw [PySem.sizeLine_eq]
  simp only [List.length_cons, List.length_nil] at e' ⊢
  omega
end
/-- the sign at a place -/
def sgT (a : Nat) : Str := ⟨#[(Str.ofString "x# \"\\\n").cps.getD a 0]⟩
theorem sgn_at (i : Int) : ∃ a : Nat, a < 6 ∧ (a : Int) = i % 6 ∧ sgn i = sgT a := by
  have h0 : 0 ≤ i.fmod 6 := Int.fmod_nonneg_of_pos _ (by decide)
  have h1 : i.fmod 6 < 6 := Int.fmod_lt_of_pos _ (by decide)
  have h2 : (Str.ofString "x# \"\\\n").length = 6 := by decide
  have h3 : i.fmod 6 = i % 6 := Int.fmod_eq_emod_of_nonneg _ (by decide)
  refine ⟨(i.fmod 6).toNat, by omega, by omega, ?_⟩
  unfold sgn
  rw [item_meets ⟨h0, by rw [h2]; exact h1⟩]
  rfl
theorem sgT_inj : ∀ a, a < 6 → ∀ b, b < 6 → sgT a = sgT b → a = b := by decide +kernel
theorem sgT_ok : ∀ a, a < 6 → PyData.strOk (sgT a) = true := by decide +kernel
theorem sgn_ok (j : Int) : PyData.strOk (sgn j) = true := by
  obtain ⟨a, ha, _, e⟩ := sgn_at j
  rw [e]
  exact sgT_ok a ha
theorem sgn_inj {i j : Int} (h : sgn i = sgn j) : i % 6 = j % 6 := by
  obtain ⟨a, ha, ea, e⟩ := sgn_at i
  obtain ⟨b, hb, eb, f⟩ := sgn_at j
  rw [e, f] at h
  have := sgT_inj a ha b hb h
  omega
theorem sgn_ne {n : Int} {A B C : Str} (hA : sgn n = A) (hB : sgn (n + 1 + (n.fdiv 6).fmod 2) = B) (hC : sgn (n + 3 + (n.fdiv 12).fmod 3) = C) : A ≠ B ∧ A ≠ C ∧ B ≠ C := by
  subst hA hB hC
  have h0 : 0 ≤ (n.fdiv 6).fmod 2 := Int.fmod_nonneg_of_pos _ (by decide)
  have h1 : (n.fdiv 6).fmod 2 < 2 := Int.fmod_lt_of_pos _ (by decide)
  have h2 : 0 ≤ (n.fdiv 12).fmod 3 := Int.fmod_nonneg_of_pos _ (by decide)
  have h3 : (n.fdiv 12).fmod 3 < 3 := Int.fmod_lt_of_pos _ (by decide)
  refine ⟨fun h => ?_, fun h => ?_, fun h => ?_⟩ <;> (have := sgn_inj h; omega)
/-- one word of the text, with the sign behind it -/
def IsWord (a : Nat) (w : List Nat) : Prop := ∃ e, (e = 32 ∨ e = 10) ∧ ((w = [34, a, 34, e] ∧ a ≠ 34 ∧ a ≠ 92) ∨ w = [34, 92, a, 34, e] ∨ w = [92, a, e])
def IsLeft (l : List Nat) : Prop := l = [] ∨ l = [32] ∨ l = [10]
theorem one_tok (a : Nat) : Str.ofString "" ++ (⟨#[a]⟩ : Str) = ⟨#[a]⟩ := rfl
theorem lexQ_stop (tok : Str) (ln : Int) (r : List Nat) : lexQ tok ln (34 :: r) = some (tok, ln, 1) := by
  cases r <;> simp [lexQ]
theorem lexU_stop {c : Nat} (tok : Str) (ln : Int) (r : List Nat) (hc : isWs c = true) : lexU tok ln (c :: r) = some (tok, ln + nlN c, 1) := by
  cases r <;> simp [lexU, hc]
theorem cnt1 (c : Nat) : cnt 10 [c] = nlN c := by
  rw [cnt_cons, cnt_nil, nlN]; omega
theorem word_lex {a : Nat} {w : List Nat} (h : IsWord a w) : ∃ d l, IsLeft l ∧ d ≤ w.length ∧ w.drop d = l ∧ ∀ ln r, ∃ ln1, lexO ln (w ++ r) = some (⟨#[a]⟩, ln1, d) ∧ ln1 + cnt 10 l = ln + cnt 10 w := by
  obtain ⟨e, he, h⟩ := h
  have hw : isWs e = true := by rcases he with rfl | rfl <;> rfl
  have hl : IsLeft [e] := by rcases he with rfl | rfl <;> simp [IsLeft]
  rcases h with ⟨rfl, h1, h2⟩ | rfl | rfl
  · refine ⟨3, [e], hl, by simp, rfl, fun ln r => ⟨ln + nlN a, ?_, ?_⟩⟩
    · simp only [List.cons_append, List.nil_append, lexO, show isWs 34 = false from rfl, Bool.false_eq_true, if_false, if_true, lexQ, if_neg h1, if_neg h2, Option.map_some, one_tok]
    · simp only [cnt_cons, cnt_nil, nlN]; simp; omega
  · refine ⟨4, [e], hl, by simp, rfl, fun ln r => ⟨ln + nlN a, ?_, ?_⟩⟩
    · simp only [List.cons_append, List.nil_append, lexO, show isWs 34 = false from rfl, Bool.false_eq_true, if_false, if_true, lexQ, show ¬ (92 = 34) by decide, Option.map_some, one_tok]
    · simp only [cnt_cons, cnt_nil, nlN]; simp; omega
  · refine ⟨3, [], .inl rfl, by simp, rfl, fun ln r => ⟨ln + nlN a + nlN e, ?_, ?_⟩⟩
    · simp only [List.cons_append, List.nil_append, lexO, show isWs 92 = false from rfl, Bool.false_eq_true, if_false, if_true, show ¬ (92 = 34) by decide, lexU_stop _ _ _ hw, Option.map_some, one_tok]
    · simp only [cnt_cons, cnt_nil, nlN]; simp; omega
theorem left_lex {l : List Nat} (h : IsLeft l) {ln ln1 : Int} {T : List Nat} {y : Str} {d : Nat} (hT : lexO (ln + cnt 10 l) T = some (y, ln1, d)) : lexO ln (l ++ T) = some (y, ln1, d + l.length) := by
  rcases h with rfl | rfl | rfl
  · rw [cnt_nil, Int.add_zero] at hT; simpa using hT
  · rw [cnt1] at hT
    simp only [List.cons_append, List.nil_append, lexO, show isWs 32 = true from rfl, if_true, hT, Option.map_some, List.length_cons, List.length_nil]
  · rw [cnt1] at hT
    simp only [List.cons_append, List.nil_append, lexO, show isWs 10 = true from rfl, if_true, hT, Option.map_some, List.length_cons, List.length_nil]
theorem toks_words (a : Nat) : ∀ (ws : List (List Nat)) (ln : Int) (l : List Nat), (∀ w ∈ ws, IsWord a w) → IsLeft l →
    Toks ln (l ++ ws.flatten) (List.replicate ws.length ⟨#[a]⟩ ++ [Str.ofString ""]) (ln + cnt 10 (l ++ ws.flatten))
  | [], ln, l, _, hl => by
    refine ⟨ln + cnt 10 l, 0 + l.length, left_lex hl rfl, by simp, ?_⟩
    show _ = _
    simp
  | w :: r, ln, l, hw, hl => by
    obtain ⟨d, l', hl', hd, hdr, hx⟩ := word_lex (hw w (.head _))
    obtain ⟨ln1, h1, h2⟩ := hx (ln + cnt 10 l) r.flatten
    refine ⟨ln1, d + l.length, left_lex hl h1, by simp; omega, ?_⟩
    have e1 : (l ++ (w :: r).flatten).drop (d + l.length) = l' ++ r.flatten := by
      rw [Nat.add_comm, ← List.drop_drop, List.drop_left, List.flatten_cons, List.drop_append_of_le_length hd, hdr]
    have e2 : ln + cnt 10 (l ++ (w :: r).flatten) = ln1 + cnt 10 (l' ++ r.flatten) := by
      rw [List.flatten_cons, cnt_append, cnt_append, cnt_append]; omega
    rw [e1, e2]
    exact toks_words a r ln1 l' (fun z hz => hw z (.tail _ hz)) hl'
theorem cps_app (x y : Str) : (x ++ y).cps.toList = x.cps.toList ++ y.cps.toList := by
  show (x.cps ++ y.cps).toList = _
  rw [Array.toList_append]
theorem tx_flat (A : Str) (num : Int) : ∀ n, (tx A num n).cps.toList = ((List.range n).map fun k : Nat => (tword A num k).cps.toList).flatten
  | 0 => rfl
  | n + 1 => by
    rw [tx, cps_app, tx_flat A num n, List.range_succ, List.map_append, List.flatten_append]
    simp
theorem one_str {A : Str} (h : A.length = 1) : ∃ a, A = ⟨#[a]⟩ := by
  obtain ⟨⟨l⟩⟩ := A
  have h' : l.length = 1 := h
  match l, h' with
  | [a], _ => exact ⟨a, rfl⟩
theorem sep_is (j : Int) : ∃ e, (e = 32 ∨ e = 10) ∧ Txt.item (Str.ofString " \n") (j.fmod 2) = ⟨#[e]⟩ := by
  have h0 : 0 ≤ j.fmod 2 := Int.fmod_nonneg_of_pos _ (by decide)
  have h1 : j.fmod 2 < 2 := Int.fmod_lt_of_pos _ (by decide)
  rcases (show j.fmod 2 = 0 ∨ j.fmod 2 = 1 by omega) with h | h
  · rw [h]; exact ⟨32, .inl rfl, by decide +kernel⟩
  · rw [h]; exact ⟨10, .inr rfl, by decide +kernel⟩
theorem shd_one (a : Nat) : shd ⟨#[a]⟩ = decide (a = 34 ∨ a = 92) := by
  unfold shd
  rw [show (1 : Nat) = 1 from rfl, StrLaws.found_one]
  have e : (Str.ofString "\"\\").cps.toList = [34, 92] := by decide +kernel
  rw [e]
  simp
theorem tword_is (a : Nat) (num k : Int) : IsWord a (tword ⟨#[a]⟩ num k).cps.toList := by
  obtain ⟨e, he, es⟩ := sep_is ((num + k).fdiv 2)
  refine ⟨e, he, ?_⟩
  unfold tword
  rw [es, shd_one, cps_app]
  have q1 : (Str.ofString "\"").cps.toList = [34] := by decide +kernel
  have q2 : (Str.ofString "\\").cps.toList = [92] := by decide +kernel
  by_cases h1 : (num.fdiv (k + 1)).fmod 2 = 1
  · by_cases h2 : a = 34 ∨ a = 92
    · right; left
      simp only [if_pos h1, h2, decide_true, if_true, cps_app, q1, q2]
      rfl
    · left
      refine ⟨?_, fun h => h2 (.inl h), fun h => h2 (.inr h)⟩
      simp only [if_pos h1, h2, decide_false, Bool.false_eq_true, if_false, cps_app, q1, q2]
      rfl
  · right; right
    simp only [if_neg h1, cps_app, q1, q2]
    rfl
theorem toks_ok (A : Str) (num : Int) (n : Nat) (hA : A.length = 1) : Toks 1 (tx A num n).cps.toList (List.replicate n A ++ [Str.ofString ""]) (1 + Txt.count (tx A num n) (Str.ofString "\n")) := by
  obtain ⟨a, rfl⟩ := one_str hA
  have h := toks_words a ((List.range n).map fun k : Nat => (tword ⟨#[a]⟩ num k).cps.toList) 1 [] (fun w hw => by
    obtain ⟨k, _, rfl⟩ := List.mem_map.mp hw
    exact tword_is a num k) (.inl rfl)
  rw [List.nil_append, ← tx_flat, List.length_map, List.length_range] at h
  rw [show Str.ofString "\n" = ⟨#[10]⟩ by decide +kernel, count_cnt]
  exact h
end Mine
end
section
open PySem PySem.W PyProof.Rows
namespace Mine
/-- the run over letters: 0, 1, 2 -/
def ruleN (x : Nat) : List Nat := if x = 0 then [1, 2] else if x = 1 then [0] else [0, 0, 0]
def tagN : Nat → List Nat → List (List Nat)
  | n + 1, x :: _ :: r => (r ++ ruleN x) :: tagN n (r ++ ruleN x)
  | _, _ => []
def pairN (k : Int) : List Nat := (List.replicate k.toNat [1, 2]).flatten
def oneN (k : Int) : List Nat := List.replicate k.toNat 0
def dueRoundN (n : Int) : List (List Nat) :=
  (rangeKs 1 (n.fdiv 2 + 1 - 1).toNat).map (fun k => oneN (n - 2 * k) ++ pairN k) ++
    (if n.fmod 2 = 0 then (rangeKs 1 (n.fdiv 2 + 1 - 1).toNat).map (fun k => pairN (n.fdiv 2 - k) ++ oneN k)
     else (rangeKs 0 (n.fdiv 2 + 1 - 0).toNat).map (fun k => [2] ++ pairN (n.fdiv 2 - k) ++ oneN (3 * k)) ++ [oneN (3 * n.fdiv 2 + 2)])
def dueGoN : Nat → Int → List (List Nat) → List (List Nat)
  | 0, _, out => out
  | f + 1, n, out => if 1 < n ∧ out.length < 90 then dueGoN f (dueNext n) (out ++ dueRoundN n) else out
theorem law_N : ∀ c, c < 26 → 2 ≤ c → tagN 90 (List.replicate c 0) = (dueGoN 200 (c : Nat) []).take 90 := by decide +kernel
theorem str_ext {x y : Str} (h : x.cps.toList = y.cps.toList) : x = y := by
  obtain ⟨⟨l⟩⟩ := x
  obtain ⟨⟨l'⟩⟩ := y
  have h' : l = l' := h
  rw [h']
theorem str_app (x y : Str) : (x ++ y).cps.toList = x.cps.toList ++ y.cps.toList := by
  show (x.cps ++ y.cps).toList = _
  rw [Array.toList_append]
section
variable (a b c : Nat)
def gl (x : Nat) : Nat := if x = 0 then a else if x = 1 then b else c
/-- the text of the letters -/
def sx (l : List Nat) : Str := ⟨(l.map (gl a b c)).toArray⟩
theorem sx_app (l l' : List Nat) : sx a b c (l ++ l') = sx a b c l ++ sx a b c l' := str_ext (by rw [str_app]; simp [sx])
theorem join_nil : ∀ l : List Str, (Str.join (Str.ofString "") l).cps.toList = (l.map fun x => x.cps.toList).flatten
  | [] => rfl
  | [x] => by simp [Str.join]
  | x :: y :: r => by
    have e : Str.join (Str.ofString "") (x :: y :: r) = x ++ Str.ofString "" ++ Str.join (Str.ofString "") (y :: r) := rfl
    rw [e, str_app, str_app, join_nil (y :: r)]
    simp [show (Str.ofString "").cps.toList = [] from rfl]
theorem join_sx (l : List Nat) : Txt.join (Str.ofString "") (l.map fun x => (⟨#[gl a b c x]⟩ : Str)) = sx a b c l := by
  refine str_ext ?_
  rw [show Txt.join (Str.ofString "") (l.map fun x => (⟨#[gl a b c x]⟩ : Str)) = Str.join (Str.ofString "") (l.map fun x => (⟨#[gl a b c x]⟩ : Str)) from StrLaws.glued_eq_join _ _, join_nil]
  induction l with
  | nil => rfl
  | cons x r ih => simp only [List.map_cons, List.flatten_cons]; rw [ih]; simp [sx]
theorem fold_rep (u : Array Nat) : ∀ (k : Nat) (acc : Array Nat), ((List.replicate k u).foldl (· ++ ·) acc).toList = acc.toList ++ (List.replicate k u.toList).flatten
  | 0, acc => by simp
  | k + 1, acc => by
    rw [List.replicate_succ, List.foldl_cons, fold_rep u k]
    simp [List.replicate_succ]
theorem mul_list (x : Str) (n : Int) (hx : x.length ≠ 0) : (Txt.mul x n).cps.toList = (List.replicate n.toNat x.cps.toList).flatten := by
  unfold Txt.mul
  by_cases h1 : n < 1
  · rw [if_pos h1]
    have e : n.toNat = 0 := by omega
    rw [e]; rfl
  · rw [if_neg h1]
    by_cases h2 : n = 1
    · subst h2; simp
    · have e : (n == 1 || x.length == 0) = false := by simp [h2, hx]
      rw [e, if_neg Bool.false_ne_true]
      show ((List.replicate n.toNat x.cps).foldl (· ++ ·) #[]).toList = _
      rw [fold_rep]; simp
theorem mul_A (k : Int) : Txt.mul ⟨#[a]⟩ k = sx a b c (oneN k) := by
  refine str_ext ?_
  rw [mul_one_list]
  simp [sx, oneN, gl]
theorem mul_P (k : Int) : Txt.mul ((⟨#[b]⟩ : Str) ++ ⟨#[c]⟩) k = sx a b c (pairN k) := by
  refine str_ext ?_
  rw [mul_list _ _ (by show (#[b] ++ #[c] : Array Nat).size ≠ 0; simp)]
  rw [str_app]
  simp [sx, pairN, gl, List.map_flatten]
theorem round_sx (n : Int) : dueRound ⟨#[a]⟩ ((⟨#[b]⟩ : Str) ++ ⟨#[c]⟩) ⟨#[c]⟩ n = (dueRoundN n).map (sx a b c) := by
  have hc : (⟨#[c]⟩ : Str) = sx a b c [2] := rfl
  unfold dueRound dueRoundN
  simp only [mul_A a b c, mul_P a b c]
  by_cases h : n.fmod 2 = 0
  · simp only [if_pos h, List.map_append, List.map_map, Function.comp_def, sx_app]
  · simp only [if_neg h, List.map_append, List.map_map, Function.comp_def, sx_app, List.map_cons, List.map_nil, ← hc]
theorem go_sx : ∀ (f : Nat) (n : Int) (out : List (List Nat)), dueGo ⟨#[a]⟩ ((⟨#[b]⟩ : Str) ++ ⟨#[c]⟩) ⟨#[c]⟩ f n (out.map (sx a b c)) = (dueGoN f n out).map (sx a b c)
  | 0, _, _ => rfl
  | f + 1, n, out => by
    simp only [dueGo, dueGoN, List.length_map]
    by_cases h : 1 < n ∧ out.length < 90
    · rw [if_pos h, if_pos h, round_sx, ← List.map_append, go_sx f]
    · rw [if_neg h, if_neg h]
theorem rule_sx (h1 : a ≠ b) (h2 : a ≠ c) (h3 : b ≠ c) {x : Nat} (hx : x < 3) : tagRule ⟨#[a]⟩ ⟨#[b]⟩ ⟨#[c]⟩ ⟨#[gl a b c x]⟩ = (ruleN x).map fun x => (⟨#[gl a b c x]⟩ : Str) := by
  have k : ∀ u v : Nat, u ≠ v → (⟨#[u]⟩ : Str) ≠ ⟨#[v]⟩ := fun u v huv e => huv (by
    have e1 := congrArg (fun z : Str => z.cps.toList) e
    simpa using e1)
  unfold tagRule
  rcases (show x = 0 ∨ x = 1 ∨ x = 2 by omega) with rfl | rfl | rfl
  · rw [if_pos (show (⟨#[gl a b c 0]⟩ : Str) = ⟨#[a]⟩ from rfl)]; rfl
  · rw [if_neg (k _ _ (Ne.symm h1) : (⟨#[gl a b c 1]⟩ : Str) ≠ ⟨#[a]⟩), if_pos (show (⟨#[gl a b c 1]⟩ : Str) = ⟨#[b]⟩ from rfl)]; rfl
  · rw [if_neg (k _ _ (Ne.symm h2) : (⟨#[gl a b c 2]⟩ : Str) ≠ ⟨#[a]⟩), if_neg (k _ _ (Ne.symm h3) : (⟨#[gl a b c 2]⟩ : Str) ≠ ⟨#[b]⟩)]; rfl
theorem rule_lt (x : Nat) : ∀ y ∈ ruleN x, y < 3 := by
  intro y hy
  unfold ruleN at hy
  split at hy
  · simp at hy; omega
  · split at hy <;> (simp at hy; omega)
theorem run_sx (h1 : a ≠ b) (h2 : a ≠ c) (h3 : b ≠ c) : ∀ (n : Nat) (q : List Nat), (∀ y ∈ q, y < 3) → tagRun ⟨#[a]⟩ ⟨#[b]⟩ ⟨#[c]⟩ n (q.map fun x => (⟨#[gl a b c x]⟩ : Str)) = (tagN n q).map (sx a b c)
  | 0, _, _ => by simp [tagRun, tagN]
  | n + 1, [], _ => by simp [tagRun, tagN]
  | n + 1, [_], _ => by simp [tagRun, tagN]
  | n + 1, x :: y :: r, hq => by
    have hr : ∀ z ∈ r ++ ruleN x, z < 3 := fun z hz => (List.mem_append.mp hz).elim (fun h => hq z (.tail _ (.tail _ h))) (rule_lt x z)
    simp only [List.map_cons, tagRun, tagN, rule_sx a b c h1 h2 h3 (hq x (.head _))]
    rw [← List.map_append, join_sx, run_sx h1 h2 h3 n _ hr]
end
theorem one_of {A : Str} (h : A.length = 1) : ∃ a, A = ⟨#[a]⟩ := by
  obtain ⟨⟨l⟩⟩ := A
  have h' : l.length = 1 := h
  match l, h' with
  | [a], _ => exact ⟨a, rfl⟩
theorem tag_law {A B C : Str} {cnt : Int} (hA1 : A.length = 1) (hB1 : B.length = 1) (hC1 : C.length = 1) (hAB : A ≠ B) (hAC : A ≠ C) (hBC : B ≠ C) (hc : 2 ≤ cnt ∧ cnt ≤ 25) : tagRun A B C 90 (List.replicate cnt.toNat A) = (dueGo A (B ++ C) C 200 cnt []).take 90 := by
  obtain ⟨a, rfl⟩ := one_of hA1
  obtain ⟨b, rfl⟩ := one_of hB1
  obtain ⟨c, rfl⟩ := one_of hC1
  have h1 : a ≠ b := fun e => hAB (by rw [e])
  have h2 : a ≠ c := fun e => hAC (by rw [e])
  have h3 : b ≠ c := fun e => hBC (by rw [e])
  have e1 : List.replicate cnt.toNat (⟨#[a]⟩ : Str) = (List.replicate cnt.toNat 0).map fun x => (⟨#[gl a b c x]⟩ : Str) := by rw [List.map_replicate]; rfl
  have hl := law_N cnt.toNat (by omega) (by omega)
  rw [Int.toNat_of_nonneg (by omega)] at hl
  have e2 := go_sx a b c 200 cnt []
  rw [List.map_nil] at e2
  rw [e1, run_sx a b c h1 h2 h3 90 _ (fun y hy => by rw [(List.mem_replicate.mp hy).2]; decide), e2, hl, List.map_take]
theorem tag_ok {A B C : Str} (hA : PyData.strOk A = true) (hB : PyData.strOk B = true) (hC : PyData.strOk C = true) : ∀ (n : Nat) (q : List Str), (∀ y ∈ q, PyData.strOk y = true) → ∀ y ∈ tagRun A B C n q, PyData.strOk y = true := by
  have hj : ∀ l : List Str, (∀ y ∈ l, PyData.strOk y = true) → PyData.strOk (Txt.join (Str.ofString "") l) = true := by
    intro l hl
    rw [show Txt.join (Str.ofString "") l = Str.join (Str.ofString "") l from StrLaws.glued_eq_join _ _]
    unfold PyData.strOk at hl ⊢
    rw [← Array.all_toList, List.all_eq_true, join_nil]
    intro x hx
    obtain ⟨z, hz, hxz⟩ := List.mem_flatten.mp hx
    obtain ⟨y, hy, rfl⟩ := List.mem_map.mp hz
    have := hl y hy
    rw [← Array.all_toList, List.all_eq_true] at this
    exact this x hxz
  have hr : ∀ f, ∀ y ∈ tagRule A B C f, PyData.strOk y = true := by
    intro f y hy
    unfold tagRule at hy
    split at hy
    · simp at hy; rcases hy with rfl | rfl <;> assumption
    · split at hy
      · simp at hy; subst hy; exact hA
      · simp at hy; subst hy; exact hA
  intro n
  induction n with
  | zero => intro q _ y hy; simp [tagRun] at hy
  | succ n ih =>
    intro q hq y hy
    match q, hq, hy with
    | [], _, hy => simp [tagRun] at hy
    | [_], _, hy => simp [tagRun] at hy
    | f :: g :: r, hq, hy =>
      have hn : ∀ z ∈ r ++ tagRule A B C f, PyData.strOk z = true := fun z hz => (List.mem_append.mp hz).elim (fun h => hq z (.tail _ (.tail _ h))) (hr f z)
      simp only [tagRun, List.mem_cons] at hy
      rcases hy with rfl | hy
      · exact hj _ hn
      · exact ih _ hn y hy
end Mine
end
section
open PySem PySem.W PyProof.Rows
namespace Mine
local macro_rules | `(tactic| k_room) => `(tactic| ((try simp only [depth_under_make, depth_under_kw, depth_in1, depth_deeper, depth_caller] at *); (try dsimp only [ktrTop] at *); (simp only [recursionLimit] at *); omega))
local macro_rules | `(tactic| walk_at "call ref") => `(tactic| (with_reducible refine hold_on ?_))
local macro_rules | `(tactic| walk_at "exec Assign cons ListComp") => `(tactic| (k_here; k_dflt (refine LCg.Assign_ListComp_U (F₀ := by k_asm) (by rfl) (by with_unfolding_all rfl) (by with_unfolding_all rfl) (by decide) (by rfl) (by decide) (by rfl) (by rfl) (by rfl) ?_)))
local macro_rules | `(tactic| walk_at "CompSrc") => `(tactic| (refine hold_stop ?_))
local macro_rules | `(tactic| walk_at "binaryOp Mult ref int") => `(tactic| (with_reducible refine hold_on ?_))
local macro_rules | `(tactic| walk_at "binaryOp Add ref ref") => `(tactic| (with_reducible refine hold_on ?_))
local macro_rules | `(tactic| walk_at "compareOp NotEq ref ref") => `(tactic| (with_reducible refine hold_on ?_))
local macro_rules | `(tactic| walk_at "CompEnd") => `(tactic| (refine hold_stop ?_))
theorem tail_ok {w : World} {mean : ExcName → Option Value} {mg mb : Str → Option Value} {p : Program} {loose : List Str}
    {fa : Addr} {cd : Value} {base : Heap} {L nl : Addr} {m0 : Str → Option Value} {s : Shared} {n0 n1 : Int} {t0 t1 : Tok} {e0 : Nat} {oc : Obj} {Q : Flow → Shared → Prop} {E : Value → Shared → Prop}
    (BB : Below callerA base [] base) (FF : Fr base L s.heap (fun y => if y = Str.ofString "numbers" then some (.ref nl) else m0 y)) (X : (Mine.hd.heap_39 w.params).In base)
    (N : News base L s.heap [(nl, listOf #[.int n0 t0, .int n1 t1] e0), (L + 1, oc), (58, tabObj #[])]) (T : Top p loose mean mg mb base) (hcd : CodeHd base 62 58)
    (hoc : oc.data = .cell none) (hg : @LT.lt Nat _ 58 L) (hn0 : 0 ≤ n0 ∧ n0 < 1000000) (hn1 : 0 ≤ n1 ∧ n1 < 1000000)
    (hret : ∀ h' tk' m' tb, Fr base L h' m' → News base L h' [(58, tabObj tb)] → Q (.ret (.bool true)) { s with heap := h', toks := tk' }) :
    wpAny (model PySem.Challenge.rw_oc0403_01.row.prog w) (callerA.deeper (envOfC (Str.ofString "law") lawScope L fa cd)) (execs lawTail (envOfC (Str.ofString "law") lawScope L fa cd)) Q E s := by
  have dummy : PySem.Challenge.rw_oc0403_01.prog = PySem.Challenge.rw_oc0403_01.prog ∧ Mine.hd.heap_39 = Mine.hd.heap_39 := by
    k_fill
    exact ⟨rfl, rfl⟩
  clear dummy
  refine wpAny_noRaise ?_
  conv in (occs := *) lawScope => all_goals whnf
  conv in lawTail => whnf
  w_on
  (try k_fold)
  k_steps
  rename Fr _ _ _ _ => F1
  rename News _ _ _ _ => N1
  obtain ⟨cnt, hcnt⟩ : ∃ c, c = 2 + n0.fmod 24 := ⟨_, rfl⟩
  rw [show 2 + ([n0, n1].getD (Int.toNat 0) 0).fmod 24 = cnt from hcnt.symm] at F1
  have hcn : 2 ≤ cnt ∧ cnt ≤ 25 := by
    have h1 : 0 ≤ n0.fmod 24 := Int.fmod_nonneg_of_pos _ (by decide)
    have h2 : n0.fmod 24 < 24 := Int.fmod_lt_of_pos _ (by decide)
    omega
  refine hold_off (wpAny_call (signs_ok (num := n1) BB F1 X (nsub N1 (fun _ h => nomatch h)) T rfl (by decide) ⟨hn1.1, by omega⟩ ?_))
  intro h2 tk2 sg ta tb tc F2 N2 K2
  replace N2 := nboth N2 (nkept N1 K2 (fun _ _ h => nomatch h))
  clear N1 F1 K2
  simp only [List.cons_append, List.nil_append] at N2
  generalize hA : sgn n1 = A at N2
  generalize hB : sgn (n1 + 1 + (n1.fdiv 6).fmod 2) = B at N2
  generalize hC : sgn (n1 + 3 + (n1.fdiv 12).fmod 3) = C at N2
  have hsg1 : @Ne Nat 58 sg := by
    rintro rfl
    have e1 := (N2 _ (.head _)).1
    have e2 := (N2 (58, tabObj #[]) (.tail _ (.tail _ (.tail _ (.head _))))).1
    rw [e1] at e2
    have e3 := congrArg Obj.data (Option.some.inj e2)
    cases e3
  have hsg2 : @Ne Nat sg (L + 1) := by
    rintro rfl
    have e1 := (N2 _ (.head _)).1
    have e2 := (N2 (L + 1, oc) (.tail _ (.tail _ (.head _)))).1
    rw [e1] at e2
    have e3 := congrArg Obj.data (Option.some.inj e2)
    rw [hoc] at e3
    cases e3
  obtain ⟨hAB, hAC, hBC⟩ := sgn_ne hA hB hC
  have hA1 : A.length = 1 := by rw [← hA]; exact sgn_len _
  k_steps
  rename Fr _ _ _ _ => F1
  rename News _ _ _ _ => N1
  refine hold_off (wpAny_call (text_ok (sg := A) (cnt := cnt) (num := n1) BB F1 X (nsub N1 (fun _ h => nomatch h)) T rfl (by decide) ⟨hn1.1, by omega⟩ hcn hA1 ?_))
  (try clear N2); (try clear F2)
  intro h2 tk2 tt F2 N2 K2
  replace N2 := nkept N1 K2 (fun _ _ h => nomatch h)
  clear N1 F1 K2
  have htl : (tx A n1 cnt.toNat).length ≤ 1000 := by
    have := tx_len hA1 n1 cnt.toNat
    omega
  k_steps
  rename Fr _ _ _ _ => F1
  rename News _ _ _ _ => N1
  refine hold_off (wpAny_call (lexer_ok (sg := sg) (c0 := L + 1) BB F1 X (nsub N1 (by k_allIn)) T hcd rfl (by decide) htl hsg1 (by omega) ?_))
  (try clear N2); (try clear F2)
  intro h2 tk2 x t2 tb' ok ext hx1 hx2 F2 N2 K2
  clear N1 F1 K2
  (try dsimp only at F2)
  dsimp only [lexNews, lexDict, List.cons_append, List.nil_append] at N2
  have hgo := ok.hg
  k_steps
  rename Fr _ _ _ _ => F1
  rename News _ _ _ _ => N1
  rename IsRange _ _ _ _ _ _ _ _ => R1
  rename (Obj.data _ = Data.cell (some (Value.ref x.lx))) => hoc'
  rename Obj => o'
  (try clear N2); (try clear F2)
  have htk := toks_ok A n1 cnt.toNat hA1
  have en : (cnt + 1 - 0).toNat = cnt.toNat + 1 := by omega
  refine hold_off' (LCg.CompSrc.range (n := (cnt + 1 - 0).toNat) rfl F1 N1 R1 (small_one (by l_bnd) (by l_bnd) (by l_bnd) (by l_bnd)) (rangeSize_nat _ _) (by rw [PySem.sizeLine_eq]; omega) ?_)
  intro g1
  dsimp only
  refine comp_inv (WordJ w x (tx A n1 cnt.toNat).cps.toList (List.replicate cnt.toNat A ++ [Str.ofString ""]) (1 + Txt.count (tx A n1 cnt.toNat) (Str.ofString "\n")) [(x.pb, listOf #[] 0), (sg, listOf #[.str A ta, .str B tb, .str C tc] 3), (L + 1, o'), (58, tabObj tb')]) ⟨#[], 0, t2, 1, rfl, Nat.zero_le _, htk, .nil⟩ ?_ ?_
  · rintro i v ys nx I oI C' oC D m₂ h tk E' hi ⟨items, ne, t2', lni, rfl, hsz, htk', hst⟩ ⟨tv, rfl⟩ hC' hx F2 N2 off ne3
    clear F1 N1 R1
    dsimp only [lexNews, lexDict, List.cons_append, List.nil_append] at N2
    k_steps
    rename Fr _ _ _ _ => F9
    rename News _ _ _ _ => N9
    have hi2 : i < (List.replicate cnt.toNat A ++ [Str.ofString ""]).length := by simp only [List.length_append, List.length_replicate, List.length_singleton]; omega
    rw [List.drop_eq_getElem_cons hi2] at htk'
    generalize hy : (List.replicate cnt.toNat A ++ [Str.ofString ""])[i] = y at htk'
    obtain ⟨ln1, d, hle, hdl, htk2⟩ := htk'
    rw [List.drop_drop] at htk2
    rw [List.length_drop] at hdl
    have hoff := off.mem
    refine hold_off (wpAny_call (get_ok (x := x) (items := items) (ne := ne) (ln := lni) (t2 := t2') (nb := 0) (fin := (y, ln1, d)) BB F9 X (nsub N9 (by dsimp only [lexNews, lexDict, List.cons_append, List.nil_append]; k_allIn)) T hcd rfl ok (by rw [ext]; exact hsz) (by decide) (by rw [ext]; exact hle) ?_))
    intro h8 tk8 its8 ne8 t28 tt8 e8 F8 N8 K8
    have N8' := nboth N8 (nkept (nsub (l' := [(I, oI), (C', oC), (D, LCg.lst ys), (sg, listOf #[.str A ta, .str B tb, .str C tc] 3), (L + 1, o'), (58, tabObj tb')]) N9 (by k_allIn)) K8 ?_)
    · dsimp only
      (try k_unfold)
      refine LCg.CompEnd.intro F8 N8' (lexNews w x its8 ne8 ln1 t28 ++ [(x.pb, listOf #[] 0), (sg, listOf #[.str A ta, .str B tb, .str C tc] 3), (L + 1, o'), (58, tabObj tb')]) (by dsimp only [lexNews, lexDict, List.cons_append, List.nil_append]; k_allIn) off True.intro ⟨its8, ne8, t28, ln1, rfl, by rw [e8]; dsimp only; omega, by rw [e8]; exact htk2, ?_⟩
      rw [List.take_add_one, List.getElem?_eq_getElem hi2, hy]
      exact strs_app hst (StrsAre.cons _ _ .nil)
    · intro p hp hm
      obtain ⟨q, hq, hqe⟩ := List.mem_map.mp hm
      have hq' : q ∈ lexNews w x items ne lni t2' ++ [(x.pb, listOf #[] 0), (sg, listOf #[.str A ta, .str B tb, .str C tc] 3), (L + 1, o'), (58, tabObj tb')] := by
        rcases List.mem_append.mp hq with h | h
        · exact List.mem_append_left _ h
        · exact List.mem_append_right _ (by rw [List.mem_singleton.mp h]; exact .head _)
      have hb := hoff q hq'
      simp only [List.mem_cons, List.not_mem_nil, or_false] at hp
      rcases hp with rfl | rfl | rfl | rfl | rfl | rfl
      · exact hb.1 hqe
      · exact hb.2.1 hqe
      · exact hb.2.2 hqe
      · exact lex_off ok hx1 hm
      · exact lex_off ok hx2 hm
      · exact lex_off ok hgo.1 hm
  · rintro ys nx ⟨items, ne, t2', lni, rfl, hsz, htk', hst⟩
    clear F1 N1 R1
    (try dsimp only)
    unfold LCg.FinA
    intro D h tk F2 N2 o1
    dsimp only [lexNews, lexDict, List.cons_append, List.nil_append] at N2
    have off2 : @Ne Nat x.dlx D ∧ @Ne Nat x.lx D ∧ @Ne Nat x.pb D ∧ @Ne Nat sg D ∧ @Ne Nat (L + 1) D ∧ @Ne Nat 58 D := by
      simp only [LCg.Off1, lexNews, List.cons_append, List.nil_append, and_true] at o1
      obtain ⟨_, a1, a2, _, _, _, _, _, _, a3, a4, a5, a6⟩ := o1
      exact ⟨a1, a2, a3, a4, a5, a6⟩
    clear o1
    have el : (List.replicate cnt.toNat A ++ [Str.ofString ""]).length = (cnt + 1 - 0).toNat := by simp only [List.length_append, List.length_replicate, List.length_singleton]; omega
    rw [← el, List.take_length] at hst
    rw [← el, List.drop_length] at htk'
    have N3 := nsub (l' := [(D, LCg.lst ys), (x.dlx, lexDict w x lni t2'), (x.lx, instObj 52 x.dlx), (x.pb, listOf #[] 0), (sg, listOf #[.str A ta, .str B tb, .str C tc] 3), (L + 1, o'), (58, tabObj tb')]) N2 (by dsimp only [lexDict]; k_allIn)
    clear N2
    have hB1 : B.length = 1 := by rw [← hB]; exact sgn_len _
    have hC1 : C.length = 1 := by rw [← hC]; exact sgn_len _
    have hkA : PyData.strOk A = true := by rw [← hA]; exact sgn_ok _
    have hkB : PyData.strOk B = true := by rw [← hB]; exact sgn_ok _
    have hkC : PyData.strOk C = true := by rw [← hC]; exact sgn_ok _
    k_dflt (exact tail2_ok BB F2 X N3 T hoc' (by omega) ⟨hsg2, Ne.symm hsg1, by omega⟩ off2 hcn htl hst htk'.symm hA1 hB1 hC1 hAB hAC hBC hkA (tag_law hA1 hB1 hC1 hAB hAC hBC hcn) (tag_ok hkA hkB hkC _ _ (fun y hy => by rw [(List.mem_replicate.mp hy).2]; exact hkA)) hret)
end Mine
end
section
open PySem PySem.W PyProof.Rows
namespace Mine
local macro_rules | `(tactic| walk_at "subscriptTail") => `(tactic| ((with_reducible show wpAny _ _ (subscriptTail (Expr.List _ _) _ _ _) _ _ _); with_reducible refine hold_on ?_))
local macro_rules | `(tactic| walk_at "binaryOp Add ref ref") => `(tactic| (with_reducible refine hold_on ?_))
local macro_rules | `(tactic| walk_at "mine slice") => `(tactic| k_dflt (refine' kmk_slice_lit ?F ?N ?l ?p ?q ?e ?_ ?s ?t ?z; (case F => k_asm); (case N => k_asm); (case l => kmk_list); (case p => kmk_part); (case q => kmk_part); (case e => exact rfl); (case s => with_unfolding_all rfl); (case t => kmk_pure); (case z => kmk_size)))
theorem t0 : PySem.Challenge.rw_oc0403_01.Holds := Mine.hd (by
  w_on
  k_go0
  (all_goals try k_fold)
  k_steps
  refine hold_off ?_
  k_dflt (refine kba_turn (value' := PySem.Expr.Name (PySem.Str.ofString "_") ⟨0, 0, 0, 0⟩) (fun _ => rfl) ?_)
  walk_at "mine slice"
  intro D2 h2 F2 N2 l2
  k_lt l2
  dsimp only at N2 ⊢
  k_steps
  rename IntsAre _ (List.map _ _) => hI8
  refine hold_off (add_two F2 N2 (News.isList N2 (.tail _ (.tail _ (.head _)))) (News.isList N2 (.head _)) hI8 ?_)
  clear F2 N2
  intro D3 h3 n0 t0 n1 t1 hn0 hn1 F3 N3 l3
  k_lt l3
  dsimp only at N3 ⊢
  walk1
  rename Fr _ _ _ _ => F4
  rename News _ _ _ _ => N4
  rename _ < Array.size _ => hl0
  rename (Obj.data _ = Data.cell _) => hoc
  k_dflt (refine tail_ok (by k_asm) F4 (by k_asm) (nsub N4 (by k_allIn)) (by k_asm) codeHd hoc hl0 hn0 hn1 ?_)
  intro h5 tk5 m5 tb5 F5 N5
  clear F4 N4
  k_steps)
end Mine
end
theorem PySem.Challenge.cw_oc0403_01_holds : PySem.Challenge.rw_oc0403_01.Holds := by
  exact Mine.t0
