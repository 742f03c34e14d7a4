import PyProof.Rows.All
import Wide.All
import OpenK.AllK
import Wide.FinOn
import PySem.Challenge.RW_ph0131_01
set_option Elab.async false
set_option linter.all false
set_option rowWalk.seconds 0
set_option compiler.extract_closed false
local macro_rules | `(tactic| omega) => `(tactic| first | lia | omega (splitDisjunctions := true))

section
open PySem PySem.W PyProof.Rows
set_option maxRecDepth 100000
set_option maxHeartbeats 8000000
namespace Mine
noncomputable abbrev pick {s0 s1 s2 s3 s4 s5 s6 s7 s8 s9 s10 s11 s12 s13 s14 s15 s16 s17 s18 s19 s20 : Stmt} (_ : PySem.Challenge.pw_ph0131_01.main.body = [s0, s1, s2, s3, s4, s5, s6, s7, s8, s9, s10, s11, s12, s13, s14, s15, s16, s17, s18, s19, s20]) : List Stmt := [s1, s3, s4, s5, s6, s7, s8, s9, s11, s12, s14, s15, s16, s17, s18, s19, s20]
noncomputable def view1 : Program := { PySem.Challenge.pw_ph0131_01 with main := { PySem.Challenge.pw_ph0131_01.main with body := pick (rfl : PySem.Challenge.pw_ph0131_01.main.body = [_, _, _, _, _, _, _, _, _, _, _, _, _, _, _, _, _, _, _, _, _]) } }
theorem law_said : PySem.Challenge.rw_ph0131_01.wellSaid = true := by
  rw [Fast.te9446332074065402090]
  unfold Fast.tw9446332074065402090 Fast.tw17960256430627541270 Fast.tw2436336058641802641 Fast.tw12908688711261696721
  repeat' with_reducible refine look_both ?_ ?_
  all_goals decide +kernel
noncomputable def endsQ (p : Program) (w : World) (N : Nat) : Option Shared :=
  ((Fast.tw10274390034422433532 Fast.tw14364793385576792824 (opening p) w N (Fast.tw1435165496053646825 (opening p)).1 (Fast.tw1435165496053646825 (opening p)).2).bind (Fast.tw14289696077712309145 p)).bind fun s₀ => match s₀.heap.isNs mainGlobals && s₀.gens.size == 0 with
  | true => (Fast.tw14082659384304107361 Fast.tw14364793385576792824 p w s₀.heap.objs.size (Fast.tw8920871248978507458 s₀.heap mainGlobals "__annotations__") N s₀ (topStub p)).bind fun s₁ => match staticsOk (Fast.tw5923862056798008813 p.main.body) s₀.heap s₁.heap && namesBound p s₁.heap && gensDone s₁ && laidKept s₀.heap s₁.heap with
      | true => some s₁
      | false => none
  | false => none
theorem endsQ_eq (p : Program) (w : World) (N : Nat) : openEnds treeTable p w N = endsQ p w N := by
  unfold openEnds fencedOpening topFrom endsQ
  rw [Fast.te10274390034422433532, Fast.te14364793385576792824, Fast.te1435165496053646825, Fast.te14289696077712309145, Fast.te14082659384304107361, Fast.te8920871248978507458, Fast.te5923862056798008813]
  rfl
theorem top_seen (w : World) : (endsQ PySem.Challenge.rw_ph0131_01.row.prog w 1762).map (Fast.tw4187177175401517315 view1 [] (Fast.tw5923862056798008813 PySem.Challenge.rw_ph0131_01.row.prog.main.body) (fun s => xlAt view1 [] s && recOk (RowW.records PySem.Challenge.rw_ph0131_01.row.toRowW) s) true) = some (openGood view1 []) := by kernel_rfl
theorem both_seen {α β γ : Type} {o : Option α} {f : α → β} {g : α → γ} {b : β} {c : γ} (x : o.map f = some b) (y : o.map g = some c) : o.map (fun s => (f s, g s)) = some (b, c) := by
  cases o with
  | none => cases x
  | some a => cases x; cases y; rfl
local macro_rules | `(tactic| o_law) => `(tactic| refine holds_law law_said fun said => ?_)
theorem head_of {d : DefRec} {kwd : List (Str × PySem.Expr)} (H : Hook) (hdef : defOf view1 PySem.Challenge.rw_ph0131_01.row.name = some (d, kwd)) (hp : PySem.Challenge.rw_ph0131_01.row.prog.theDef PySem.Challenge.rw_ph0131_01.row.name = some (d.params, d.body, d.scope)) (hk : kwWritten? d.params.kwonlyargs d.params.kw_defaults = some kwd)
    (hl : ∀ w, (endsQ PySem.Challenge.rw_ph0131_01.row.prog w 1762).map (Hook.obs H) = some (Hook.val H w)) (k1 : PySem.Challenge.rw_ph0131_01.row.wellSaid = true) (hw : PySem.Challenge.rw_ph0131_01.row.toRowW.promised)
    (hc : WalkO view1 [] (XL view1 []) (Hook.says H) PySem.Challenge.rw_ph0131_01.row.toRowW d kwd fun f vs => PySem.call f vs) : PySem.Challenge.rw_ph0131_01.row.Holds :=
  holds_open (q := view1) (loose := []) (Xt := fun s => xlAt view1 [] s && recOk (RowW.records PySem.Challenge.rw_ph0131_01.row.toRowW) s) (XP := XL view1 []) (Yf := Hook.obs H) (Ya := Hook.val H) (YP := Hook.says H) (N := 1762) (fun w => by
    have e := top_seen w
    rw [← Fast.te4187177175401517315, ← Fast.te5923862056798008813] at e
    rw [endsQ_eq]
    exact both_seen e (hl w)) (Hook.of H) (Hook.keeps H) (fun s e => xl_of s (Bool.and_eq_true_iff.mp e).1) XL.keeps hdef hp hk (fun s e => recFacts_of (Bool.and_eq_true_iff.mp e).2) (by rfl) k1 (by decide +kernel) ⟨rfl, rfl, rfl, rfl, rfl, by decide +kernel⟩ hw hc
local macro_rules | `(tactic| o_head $H) => `(tactic| (refine head_of $H rfl rfl rfl ?hl (by assumption) ?hw ?hc; case hl => (intro w; kernel_rfl)))
open_top hd for PySem.Challenge.rw_ph0131_01
end Mine
end

section
open PySem PySem.W PySem.Calls PySem.Spec PyProof.Rows
set_option maxRecDepth 100000
set_option maxHeartbeats 8000000
namespace Mine
noncomputable abbrev PR : Program := PySem.Challenge.rw_ph0131_01.row.toRowW.prog

section
variable {prog : Program} {w : World} {A A₀ : Around} {s : Shared} {K : Frag} {L : Addr} {h₀ base : Heap} {m mg mb : Str → Option Value} {p : Program} {loose : List Str} {mean : ExcName → Option Value}
theorem enterP {env : Env} {outer : List Env} {R : Result → Shared → Prop} {name qual : Str} {params : Arguments} {body : List Stmt} {scope : Scope} {dV kV doc pm cdv ct oc : Value} {an od : Option Addr} {osl : Array (Option Value)} {f : Addr} {args : Args} {binds : List (Str × Value)}
    (B : Below A₀ base outer h₀) (F : Fr h₀ L s.heap m) (X₀ : K.In h₀) (T : Top p loose mean mg mb h₀) (hA : A.frames = some (env :: outer)) (hf : env.frame = some L) (hke : env.scope.kind = .function)
    (ho : K.lookup f = some ⟨oc, od, .func (fnOf name qual params body scope dV kV doc pm an cdv ct), osl⟩) (hcd : codeIn K cdv qual = true) (hroom : A.depth < recursionLimit)
    (hbind : BindsTo s (fnOf name qual params body scope dV kV doc pm an cdv ct) args binds) (hloc : ∀ y ∈ binds, scope.names.lookup y.1 = some .local)
    (h : ∀ L' h₁, Fr s.heap L' h₁ (fun y => binds.reverse.lookup y) → News s.heap L' h₁ [] → Below A base (env :: outer) s.heap → K.In s.heap → Top p loose mean mg mb s.heap →
      wpAny (model prog w) (A.deeper (envOf qual scope L' f cdv)) (execs body (envOf qual scope L' f cdv))
        (fun fl s' => R (.ok (.ret (match fl with | .ret v => v | _ => .none))) s')
        (fun e s' => wpAny (model prog w) (A.deeper (envOf qual scope L' f cdv)) (leaving (envOf qual scope L' f cdv) e) (fun _ s'' => R (.error e) s'') (fun e' s'' => R (.error e') s'') s')
        { s with heap := h₁, toks := s.toks + binds.length })
    (hco : scope.isCoroutine = false) (hgen : scope.isGenerator = false) (hk : scope.kind = .function)
    (hcell : ∀ x ∈ scope.names, x.2 ≠ .cell) : codeAny (model prog w) A (.call (.ref f) args) R s := by
  have X := X₀.keeps F.keep
  have N : News h₀ L s.heap [] := News.nil
  obtain ⟨FG, BG, st, lv⟩ := groundX (R := R) B F N hA hf hke
  refine codeAny_call_def (fd := fnOf name qual params body scope dV kV doc pm an cdv ct) (body := body) (binds := binds) hroom (X _ _ ho) rfl (T.nolimit.keeps F.keep) (codeRec_of X hcd) rfl hbind hcell hloc (fun h₁ hns hk₁ => ?_) hco hgen hk
  exact h s.heap.objs.size h₁ ⟨hns, hk₁, Nat.le_refl _⟩ News.nil BG X (T.keeps F.keep)
end

/-- what a call of a def gives: nothing of the old heap is changed, and P of the value and the new heap -/
noncomputable def Does (w : World) (n : Nat) (f : Addr) (vs : List Value) (s : Shared) (P : Value → Heap → Prop) : Prop :=
  ∀ (p : Program) (loose : List Str) (mean : ExcName → Option Value) (mg mb : Str → Option Value) (dp un : Nat) (gd : Option (List Code)) (cn : Str) (cs : Scope) (a : Addr) (ccd : Value) (cl : List (Str × Addr)) (outer : List Env) (A₀ : Around) (base h₀ : Heap) (L : Addr) (m : Str → Option Value) (Q E : Value → Shared → Prop),
    Below A₀ base outer h₀ → Fr h₀ L s.heap m → (hd.heap_1 w.params).In h₀ → Top p loose mean mg mb h₀ → cs.kind = .function → dp + n < recursionLimit → un + 8 * n < cLine →
    (∀ v h' tk', (∀ b o, s.heap.get? b = some o → h'.get? b = some o) → P v h' → Q v { s with heap := h', toks := tk' }) →
    wpAny (model PR w) (ktrTop dp un gd cn cs L a ccd cl outer) (call (.ref f) vs) Q E s


section
variable {prog : Program} {w : World} {A A₀ : Around} {s : Shared} {K : Frag} {L : Addr} {h₀ base : Heap} {m mg mb : Str → Option Value} {p : Program} {loose : List Str} {mean : ExcName → Option Value} {news : List (Addr × Obj)}
/-- enter a def (or a closure) whose object stands in the heap; what is in news may be changed, all else is kept -/
theorem enterN {env : Env} {outer : List Env} {R : Result → Shared → Prop} {name qual : Str} {params : Arguments} {body : List Stmt} {scope : Scope} {cl : List (Str × Addr)} {dV kV doc pm cdv ct : Value} {an : Option Addr} {fo : Obj} {f : Addr} {args : Args} {binds : List (Str × Value)}
    (B : Below A₀ base outer h₀) (F : Fr h₀ L s.heap m) (X₀ : K.In h₀) (N : News h₀ L s.heap news) (T : Top p loose mean mg mb h₀) (hA : A.frames = some (env :: outer)) (hf : env.frame = some L) (hke : env.scope.kind = .function)
    (ho : s.heap.get? f = some fo) (hd : fo.data = .func (fnX name qual params body scope cl dV kV doc pm an cdv ct)) (hcd : s.heap.CodeRec cdv qual) (hroom : A.depth < recursionLimit)
    (hbind : BindsTo s (fnX name qual params body scope cl dV kV doc pm an cdv ct) args binds) (hloc : ∀ y ∈ binds, scope.names.lookup y.1 = some .local)
    (h : ∀ g L' h₁, g = hideAll s.heap (news.map (·.1)) → Fr g L' h₁ (fun y => binds.reverse.lookup y) → News g L' h₁ news → Below A base (env :: outer) g → K.In g → Top p loose mean mg mb g → (∀ p ∈ news, p.1 < L') →
      wpAny (model prog w) (A.deeper (envX qual scope L' f cdv cl)) (execs body (envX qual scope L' f cdv cl))
        (fun fl s' => R (.ok (.ret (match fl with | .ret v => v | _ => .none))) s')
        (fun e s' => wpAny (model prog w) (A.deeper (envX qual scope L' f cdv cl)) (leaving (envX qual scope L' f cdv cl) e) (fun _ s'' => R (.error e) s'') (fun e' s'' => R (.error e') s'') s')
        { s with heap := h₁, toks := s.toks + binds.length })
    (hco : scope.isCoroutine = false) (hgen : scope.isGenerator = false) (hk : scope.kind = .function)
    (hcell : ∀ x ∈ scope.names, x.2 ≠ .cell) : codeAny (model prog w) A (.call (.ref f) args) R s := by
  obtain ⟨FG, BG, st, lv⟩ := groundX (R := R) B F N hA hf hke
  refine codeAny_call_def (fd := fnX name qual params body scope cl dV kV doc pm an cdv ct) (body := body) (binds := binds) hroom ho hd (T.nolimit.keeps F.keep) hcd rfl hbind hcell hloc (fun h₁ hns hk₁ => ?_) hco hgen hk
  exact h _ s.heap.objs.size h₁ rfl ⟨hns, fun b o e => hk₁ b o (of_hideAll _ e), Nat.le_of_eq (hideAll_size _ _)⟩
    (fun p hp => ⟨hk₁ _ _ (N p hp).1, Nat.ne_of_lt (Heap.lt_size (N p hp).1), hideAll_none _ (List.mem_map_of_mem hp)⟩) BG (X₀.keeps st) (T.keeps st) (fun p hp => Heap.lt_size (N p hp).1)
/-- the same for a def of the written part whose locals are captured -/
theorem enterC {env : Env} {outer : List Env} {R : Result → Shared → Prop} {name qual : Str} {params : Arguments} {body : List Stmt} {scope : Scope} {dV kV doc pm cdv ct oc : Value} {an od : Option Addr} {osl : Array (Option Value)} {f : Addr} {args : Args} {binds : List (Str × Value)}
    (B : Below A₀ base outer h₀) (F : Fr h₀ L s.heap m) (X₀ : K.In h₀) (N : News h₀ L s.heap news) (T : Top p loose mean mg mb h₀) (hA : A.frames = some (env :: outer)) (hf : env.frame = some L) (hke : env.scope.kind = .function)
    (ho : K.lookup f = some ⟨oc, od, .func (fnOf name qual params body scope dV kV doc pm an cdv ct), osl⟩) (hcd : codeIn K cdv qual = true) (hroom : A.depth < recursionLimit)
    (hbind : BindsTo s (fnOf name qual params body scope dV kV doc pm an cdv ct) args binds) (hkind : (binds.all fun y => scope.names.lookup y.1 == some .local || scope.names.lookup y.1 == some .cell) = true)
    (hnd : ((cellsFrom 0 scope.names []).map (·.1)).Nodup)
    (h : ∀ g L' h₁ tk cells, g = hideAll s.heap (news.map (·.1)) → Fr g L' h₁ (bindL (envOfC qual scope L' f cdv).kindOf binds fun _ => none) → News g L' h₁ (cells ++ news) →
      CellsAre (bindC (envOfC qual scope L' f cdv).kindOf binds fun _ => none) (cellsFrom (L' + 1) scope.names []) cells → Below A base (env :: outer) g → K.In g → Top p loose mean mg mb g → (∀ p ∈ news, p.1 < L') →
      wpAny (model prog w) (A.deeper (envOfC qual scope L' f cdv)) (execs body (envOfC qual scope L' f cdv))
        (fun fl s' => R (.ok (.ret (match fl with | .ret v => v | _ => .none))) s')
        (fun e s' => wpAny (model prog w) (A.deeper (envOfC qual scope L' f cdv)) (leaving (envOfC qual scope L' f cdv) e) (fun _ s'' => R (.error e) s'') (fun e' s'' => R (.error e') s'') s')
        { s with heap := h₁, toks := tk })
    (hco : scope.isCoroutine = false) (hgen : scope.isGenerator = false) (hk : scope.kind = .function) : codeAny (model prog w) A (.call (.ref f) args) R s := by
  obtain ⟨FG, BG, st, lv⟩ := groundX (R := R) B F N hA hf hke
  have X := X₀.keeps F.keep
  refine codeAny_call_function hroom (X _ _ ho) rfl hco hgen rfl (codeRec_of X hcd) (hbind _ _ _ _ ?_)
  refine wpAny_newFunctionEnv_cells hk (kindsX hkind _) fun env' he s' x => ?_
  subst he
  refine ⟨(T.nolimit.keeps F.keep).keeps x.toInCall.keep, codeAny_func ?_⟩
  obtain ⟨h₁, tk, rfl, _⟩ := x.done
  have hk₁ := x.toInCall.keep
  obtain ⟨cells, NC, Y⟩ := Cl.news (h₀ := s.heap) (Nat.le_refl _) fun n c hm => ⟨x.cell n c (lookup_of_mem_nodup (cellsFrom_names scope.names 0 (s.heap.objs.size + 1) [] [] rfl ▸ hnd) hm), x.above n c hm⟩
  refine h _ s.heap.objs.size h₁ tk cells rfl ⟨x.toInCall.ns, fun b o e => hk₁ b o (of_hideAll _ e), Nat.le_of_eq (hideAll_size _ _)⟩ (fun p hp => ?_) Y BG (X₀.keeps st) (T.keeps st) (fun p hp => Heap.lt_size (N p hp).1)
  rcases List.mem_append.mp hp with hp | hp
  · refine ⟨(NC p hp).1, (NC p hp).2.1, ?_⟩
    cases q : (hideAll s.heap (news.map (·.1))).get? p.1 with
    | none => rfl
    | some o => have := of_hideAll _ q; rw [(NC p hp).2.2] at this; cases this
  · exact ⟨hk₁ _ _ (N p hp).1, Nat.ne_of_lt (Heap.lt_size (N p hp).1), hideAll_none _ (List.mem_map_of_mem hp)⟩
end

/-- as Does, but the objects of foot may be changed -/
noncomputable def DoesN (w : World) (n : Nat) (f : Addr) (vs : List Value) (s : Shared) (foot : List (Addr × Obj)) (P : Value → Heap → Prop) : Prop :=
  ∀ (p : Program) (loose : List Str) (mean : ExcName → Option Value) (mg mb : Str → Option Value) (dp un : Nat) (gd : Option (List Code)) (cn : Str) (cs : Scope) (a : Addr) (ccd : Value) (cl : List (Str × Addr)) (outer : List Env) (A₀ : Around) (base h₀ : Heap) (L : Addr) (m : Str → Option Value) (Q E : Value → Shared → Prop),
    Below A₀ base outer h₀ → Fr h₀ L s.heap m → News h₀ L s.heap foot → (hd.heap_1 w.params).In h₀ → Top p loose mean mg mb h₀ → cs.kind = .function → dp + n < recursionLimit → un + 8 * n < cLine →
    (∀ v h' tk', (∀ b o, b ∉ foot.map (·.1) → s.heap.get? b = some o → h'.get? b = some o) → P v h' → Q v { s with heap := h', toks := tk' }) →
    wpAny (model PR w) (ktrTop dp un gd cn cs L a ccd cl outer) (call (.ref f) vs) Q E s

theorem hide_kept {h h' : Heap} {l : List Addr} (k : ∀ b o, (hideAll h l).get? b = some o → h'.get? b = some o) : ∀ b o, b ∉ l → h.get? b = some o → h'.get? b = some o :=
  fun b o hb e => k b o (hideAll_get _ e hb)

end Mine
end

section
open PySem PySem.W PySem.Calls PySem.Spec PyProof.Rows
namespace Mine
/-! joint steps of the walk: fewer goals, smaller proofs -/
section
variable {M : Model} {A : Around} {E : Value → Shared → Prop} {s : Shared} {h₀ : Heap} {L a : Addr} {m : Str → Option Value} {cn : Str} {cs : Scope} {ccd : Value} {cl : List (Str × Addr)} {Q : Value → Shared → Prop} {news : List (Addr × Obj)}
theorem bin_nn {op : Operator} {x y : Str} {px py pos : Pos} {u v : Value} (F : Fr h₀ L s.heap m) (hx : m x = some u) (hy : m y = some v) (h : wpAny M A (binaryOp op u v) Q E s)
    (hk : cs.kind = .function) (h1 : (envX cn cs L a ccd cl).kindOf x = some .local) (h2 : (envX cn cs L a ccd cl).kindOf y = some .local) (d1 : (x == ("__debug__" : Str)) = false) (d2 : (y == ("__debug__" : Str)) = false) :
    wpAny M A (eval (.BinOp (.Name x px) op (.Name y py) pos) (envX cn cs L a ccd cl)) Q E s :=
  wpAny_BinOp (nameX_L F hx (nameX_L F hy h hk h2 d2) hk h1 d1)
theorem bin_n {op : Operator} {x : Str} {r : PySem.Expr} {px pos : Pos} {u : Value} (F : Fr h₀ L s.heap m) (hx : m x = some u) (h : wpAny M A (eval r (envX cn cs L a ccd cl)) (fun b s₂ => wpAny M A (binaryOp op u b) Q E s₂) E s)
    (hk : cs.kind = .function) (h1 : (envX cn cs L a ccd cl).kindOf x = some .local) (d1 : (x == ("__debug__" : Str)) = false) :
    wpAny M A (eval (.BinOp (.Name x px) op r pos) (envX cn cs L a ccd cl)) Q E s :=
  wpAny_BinOp (nameX_L F hx h hk h1 d1)
theorem asg {x : Str} {px pos : Pos} {e : PySem.Expr} {rest : List Stmt} {env : Env} {Q : Flow → Shared → Prop}
    (h : wpAny M A (eval e env) (fun v s₁ => wpAny M A (storeName env x v) (fun _ s' => wpAny M A (execs rest env) Q E s') E s₁) E s)
    (hs : swapsWith e (some (.Name x px)) pos.line env = pure false := by rfl) : wpAny M A (execs (.Assign [.Name x px] e pos :: rest) env) Q E s :=
  wpAny_execs_cons (wpAny_Assign_Name h hs)
theorem st_tk {x : Str} {v : Value} {Q : Unit → Shared → Prop} (F : Fr h₀ L s.heap m) (N : News h₀ L s.heap news)
    (h : ∀ h' tk', Fr h₀ L h' (fun y => if y = x then some v else m y) → News h₀ L h' news → Q () { s with heap := h', toks := tk' })
    (hk : cs.kind = .function) (hx : (envX cn cs L a ccd cl).kindOf x = some .local) : wpAny M A (storeName (envX cn cs L a ccd cl) x v) Q E s :=
  storeX_L F N (fun h' F' N' => h h' _ F' N') hk hx
theorem sp_n {x : Str} {px pos : Pos} {rest : List PySem.Expr} {v : Value} {Q : List Value → Shared → Prop} (F : Fr h₀ L s.heap m) (hx : m x = some v)
    (h : wpAny M A (spliced (backTo pos (starEach rest (envX cn cs L a ccd cl)))) (fun vs s₂ => Q (v :: vs) s₂) E s)
    (hk : cs.kind = .function) (h1 : (envX cn cs L a ccd cl).kindOf x = some .local) (d1 : (x == ("__debug__" : Str)) = false) :
    wpAny M A (spliced (backTo pos (starEach (.Name x px :: rest) (envX cn cs L a ccd cl)))) Q E s :=
  args_cons (nameX_L F hx h hk h1 d1)
theorem sp_c {i : Int} {k : Nat} {pc pos : Pos} {rest : List PySem.Expr} {env : Env} {Q : List Value → Shared → Prop}
    (h : wpAny M A (spliced (backTo pos (starEach rest env))) (fun vs s₂ => Q (.int i s.toks :: vs) s₂) E { s with toks := s.toks + 1 }) :
    wpAny M A (spliced (backTo pos (starEach (.Constant (.int i) k pc :: rest) env))) Q E s :=
  args_cons (wpAny_Constant_int h)
end
end Mine
end

section
open PySem PySem.W PySem.Calls PySem.Spec PyProof.Rows
set_option maxRecDepth 100000
set_option maxHeartbeats 8000000
namespace Mine
open PySem.Flt PyProof.V
noncomputable def fmax3 (x y z : UInt64) : UInt64 :=
  if (Float64.cmp x y == some .lt) = true then (if (Float64.cmp y z == some .lt) = true then z else y) else (if (Float64.cmp x z == some .lt) = true then z else x)
noncomputable def fmin3 (x y z : UInt64) : UInt64 :=
  if (Float64.cmp y x == some .lt) = true then (if (Float64.cmp z y == some .lt) = true then z else y) else (if (Float64.cmp z x == some .lt) = true then z else x)
section
variable {prog : Program} {w : World} {A : Around} {E : Value → Shared → Prop} {s : Shared} {Q : Value → Shared → Prop}
theorem args_max3 (a b c : Value) : argsOk "max" ⟨[a, b, c], []⟩ := by unfold argsOk; kernel_rfl
theorem args_min3 (a b c : Value) : argsOk "min" ⟨[a, b, c], []⟩ := by unfold argsOk; kernel_rfl
theorem call_max3 {a b c : Value} (hh : A.handled = none) (ha : NumV a) (hb : NumV b) (hc : NumV c)
    (h : ∀ v h' tk, #[a, b, c][argBest (fun i j => ltV (#[a, b, c].getD j .none) (#[a, b, c].getD i .none)) 2]? = some v → (∀ b o, s.heap.get? b = some o → h'.get? b = some o) → Q v { s with heap := h', toks := tk }) :
    wpAny (model prog w) A (call (.builtin "max") [a, b, c]) Q E s := by
  have hname : (toString "max" ++ toString ".loop" : String) = "max.loop" := by decide
  refine call_function_tree F.kind_max F.plain_max F.entry_max (args_max3 _ _ _) ?_
  show wpAny _ A.in1 (Builtin.Builtins.bindParams "max" ["key", "default"] 0 ⟨[], []⟩ >>= _) _ _ s
  refine wpAny_bind (wpAny_of_eq (show Builtin.Builtins.bindParams "max" ["key", "default"] 0 ⟨[], []⟩ = pure [none, none] from rfl) ?_)
  show wpAny _ A.in1 (newTuple [a, b, c] >>= _) _ _ s
  refine wpAny_bind (wpAny_newObj_type ?_)
  have hT : (s.heap.push { cls := .type "tuple", data := .seq #[a, b, c] }).IsTuple s.heap.objs.size #[a, b, c] := ⟨_, Heap.get?_push_size _ rfl, rfl, 0, rfl⟩
  have hsz : (s.heap.push { cls := .type "tuple", data := .seq #[a, b, c] }).objs.size = s.heap.objs.size + 1 := Heap.size_push ..
  refine wpAny_bind (wpAny_pyIter_tuple hT ?_)
  refine wpAny_bind (wpAny_newObj_type ?_)
  have W := Walks.tuple (prog := prog) (w := w) (A := A.in1) hh (s.heap.push { cls := .type "tuple", data := .seq #[a, b, c] }).objs.size s.heap.objs.size (by rw [hsz]; exact Nat.ne_of_lt (Nat.lt_succ_self _)) #[a, b, c]
  have e2 : ((s.heap.push { cls := .type "tuple", data := .seq #[a, b, c] }).push { cls := Value.type "tuple_iterator", data := Data.fields #[Value.ref s.heap.objs.size, Value.int 0 0] }).objs.size = s.heap.objs.size + 2 := by rw [Heap.size_push, hsz]
  rw [hname]
  refine wpAny_pure ⟨plainId_quiet F.plain_max_loop _, codeAny_max_loop_first W _ (cmpOf_gt #[a, b, c] (by simp [ha, hb, hc])) _ ?_ (by simp) ?_ (Heap.get?_push_size _ rfl) fun v h' tk hP hk => ?_⟩
  · show ((s.heap.push { cls := .type "tuple", data := .seq #[a, b, c] }).push { cls := Value.type "tuple_iterator", data := Data.fields #[Value.ref s.heap.objs.size, Value.int 0 0] }).objs.size ∉ _
    rw [e2, hsz]
    simp
  · exact ⟨⟨_, Heap.get?_push_of_some _ (Heap.get?_push_size _ rfl), rfl, rfl⟩, (hT.push _).push _⟩
  · refine h v h' tk hP fun b' o e => hk b' o ?_ ?_ (Heap.get?_push_of_some _ (Heap.get?_push_of_some _ (Heap.get?_push_of_some _ e)))
    · intro hm
      have h1 := ltN (Heap.lt_size e)
      have h2 : @Eq Nat b' _ := List.mem_singleton.mp hm
      rw [hsz] at h2; omega
    · have := ltN (Heap.lt_size e)
      refine neN ?_
      show @Ne Nat b' ((s.heap.push { cls := .type "tuple", data := .seq #[a, b, c] }).push { cls := Value.type "tuple_iterator", data := Data.fields #[Value.ref s.heap.objs.size, Value.int 0 0] }).objs.size
      rw [e2]; omega
theorem call_min3 {a b c : Value} (hh : A.handled = none) (ha : NumV a) (hb : NumV b) (hc : NumV c)
    (h : ∀ v h' tk, #[a, b, c][argBest (fun i j => ltV (#[a, b, c].getD i .none) (#[a, b, c].getD j .none)) 2]? = some v → (∀ b o, s.heap.get? b = some o → h'.get? b = some o) → Q v { s with heap := h', toks := tk }) :
    wpAny (model prog w) A (call (.builtin "min") [a, b, c]) Q E s := by
  have hname : (toString "min" ++ toString ".loop" : String) = "min.loop" := by decide
  refine call_function_tree F.kind_min F.plain_min F.entry_min (args_min3 _ _ _) ?_
  show wpAny _ A.in1 (Builtin.Builtins.bindParams "min" ["key", "default"] 0 ⟨[], []⟩ >>= _) _ _ s
  refine wpAny_bind (wpAny_of_eq (show Builtin.Builtins.bindParams "min" ["key", "default"] 0 ⟨[], []⟩ = pure [none, none] from rfl) ?_)
  show wpAny _ A.in1 (newTuple [a, b, c] >>= _) _ _ s
  refine wpAny_bind (wpAny_newObj_type ?_)
  have hT : (s.heap.push { cls := .type "tuple", data := .seq #[a, b, c] }).IsTuple s.heap.objs.size #[a, b, c] := ⟨_, Heap.get?_push_size _ rfl, rfl, 0, rfl⟩
  have hsz : (s.heap.push { cls := .type "tuple", data := .seq #[a, b, c] }).objs.size = s.heap.objs.size + 1 := Heap.size_push ..
  refine wpAny_bind (wpAny_pyIter_tuple hT ?_)
  refine wpAny_bind (wpAny_newObj_type ?_)
  have W := Walks.tuple (prog := prog) (w := w) (A := A.in1) hh (s.heap.push { cls := .type "tuple", data := .seq #[a, b, c] }).objs.size s.heap.objs.size (by rw [hsz]; exact Nat.ne_of_lt (Nat.lt_succ_self _)) #[a, b, c]
  have e2 : ((s.heap.push { cls := .type "tuple", data := .seq #[a, b, c] }).push { cls := Value.type "tuple_iterator", data := Data.fields #[Value.ref s.heap.objs.size, Value.int 0 0] }).objs.size = s.heap.objs.size + 2 := by rw [Heap.size_push, hsz]
  rw [hname]
  refine wpAny_pure ⟨plainId_quiet F.plain_min_loop _, codeAny_min_loop_first W _ (cmpOf_lt #[a, b, c] (by simp [ha, hb, hc])) _ ?_ (by simp) ?_ (Heap.get?_push_size _ rfl) fun v h' tk hP hk => ?_⟩
  · show ((s.heap.push { cls := .type "tuple", data := .seq #[a, b, c] }).push { cls := Value.type "tuple_iterator", data := Data.fields #[Value.ref s.heap.objs.size, Value.int 0 0] }).objs.size ∉ _
    rw [e2, hsz]
    simp
  · exact ⟨⟨_, Heap.get?_push_of_some _ (Heap.get?_push_size _ rfl), rfl, rfl⟩, (hT.push _).push _⟩
  · refine h v h' tk hP fun b' o e => hk b' o ?_ ?_ (Heap.get?_push_of_some _ (Heap.get?_push_of_some _ (Heap.get?_push_of_some _ e)))
    · intro hm
      have h1 := ltN (Heap.lt_size e)
      have h2 : @Eq Nat b' _ := List.mem_singleton.mp hm
      rw [hsz] at h2; omega
    · have := ltN (Heap.lt_size e)
      refine neN ?_
      show @Ne Nat b' ((s.heap.push { cls := .type "tuple", data := .seq #[a, b, c] }).push { cls := Value.type "tuple_iterator", data := Data.fields #[Value.ref s.heap.objs.size, Value.int 0 0] }).objs.size
      rw [e2]; omega
variable {h₀ : Heap} {L : Addr} {m : Str → Option Value} {news : List (Addr × Obj)} {x y z : UInt64} {t1 t2 t3 : Tok}
theorem max3_fff (hh : A.handled = none) (F : Fr h₀ L s.heap m) (N : News h₀ L s.heap news)
    (h : ∀ h' tk t, Fr h₀ L h' m → News h₀ L h' news → Q (.float (fmax3 x y z) t) { s with heap := h', toks := tk }) :
    wpAny (model prog w) A (call (.builtin "max") [.float x t1, .float y t2, .float z t3]) Q E s := by
  refine call_max3 hh (.float x t1) (.float y t2) (.float z t3) fun v h' tk hP kp => ?_
  have F' := F.grownK kp
  have N' := N.grown kp
  have hv : ∃ t, v = .float (fmax3 x y z) t := by
    unfold fmax3
    have s2 : argBest (fun i j => ltV ((#[Value.float x t1, .float y t2, .float z t3] : Array Value).getD j .none) ((#[Value.float x t1, .float y t2, .float z t3] : Array Value).getD i .none)) 2 = (if ltV ((#[Value.float x t1, .float y t2, .float z t3] : Array Value).getD (argBest (fun i j => ltV ((#[Value.float x t1, .float y t2, .float z t3] : Array Value).getD j .none) ((#[Value.float x t1, .float y t2, .float z t3] : Array Value).getD i .none)) 1) .none) ((#[Value.float x t1, .float y t2, .float z t3] : Array Value).getD 2 .none) = true then 2 else argBest (fun i j => ltV ((#[Value.float x t1, .float y t2, .float z t3] : Array Value).getD j .none) ((#[Value.float x t1, .float y t2, .float z t3] : Array Value).getD i .none)) 1) := rfl
    have s1 : argBest (fun i j => ltV ((#[Value.float x t1, .float y t2, .float z t3] : Array Value).getD j .none) ((#[Value.float x t1, .float y t2, .float z t3] : Array Value).getD i .none)) 1 = (if ltV ((#[Value.float x t1, .float y t2, .float z t3] : Array Value).getD 0 .none) ((#[Value.float x t1, .float y t2, .float z t3] : Array Value).getD 1 .none) = true then 1 else 0) := rfl
    rw [s2] at hP
    by_cases c1 : (Float64.cmp x y == some .lt) = true
    · have e1 : argBest (fun i j => ltV ((#[Value.float x t1, .float y t2, .float z t3] : Array Value).getD j .none) ((#[Value.float x t1, .float y t2, .float z t3] : Array Value).getD i .none)) 1 = 1 := by rw [s1]; exact if_pos c1
      rw [e1] at hP
      rw [if_pos c1]
      replace hP : (#[Value.float x t1, .float y t2, .float z t3] : Array Value)[if ltV (Value.float y t2) (Value.float z t3) = true then 2 else 1]? = some v := hP
      by_cases c2 : (Float64.cmp y z == some .lt) = true
      · rw [if_pos c2]
        rw [if_pos (show ltV (Value.float y t2) (Value.float z t3) = true from c2)] at hP
        exact ⟨t3, (Option.some.inj hP).symm⟩
      · rw [if_neg c2]
        rw [if_neg (show ¬ ltV (Value.float y t2) (Value.float z t3) = true from c2)] at hP
        exact ⟨t2, (Option.some.inj hP).symm⟩
    · have e1 : argBest (fun i j => ltV ((#[Value.float x t1, .float y t2, .float z t3] : Array Value).getD j .none) ((#[Value.float x t1, .float y t2, .float z t3] : Array Value).getD i .none)) 1 = 0 := by rw [s1]; exact if_neg c1
      rw [e1] at hP
      rw [if_neg c1]
      replace hP : (#[Value.float x t1, .float y t2, .float z t3] : Array Value)[if ltV (Value.float x t1) (Value.float z t3) = true then 2 else 0]? = some v := hP
      by_cases c2 : (Float64.cmp x z == some .lt) = true
      · rw [if_pos c2]
        rw [if_pos (show ltV (Value.float x t1) (Value.float z t3) = true from c2)] at hP
        exact ⟨t3, (Option.some.inj hP).symm⟩
      · rw [if_neg c2]
        rw [if_neg (show ¬ ltV (Value.float x t1) (Value.float z t3) = true from c2)] at hP
        exact ⟨t1, (Option.some.inj hP).symm⟩
  obtain ⟨t, rfl⟩ := hv
  exact h h' tk t F' N'
theorem min3_fff (hh : A.handled = none) (F : Fr h₀ L s.heap m) (N : News h₀ L s.heap news)
    (h : ∀ h' tk t, Fr h₀ L h' m → News h₀ L h' news → Q (.float (fmin3 x y z) t) { s with heap := h', toks := tk }) :
    wpAny (model prog w) A (call (.builtin "min") [.float x t1, .float y t2, .float z t3]) Q E s := by
  refine call_min3 hh (.float x t1) (.float y t2) (.float z t3) fun v h' tk hP kp => ?_
  have F' := F.grownK kp
  have N' := N.grown kp
  have hv : ∃ t, v = .float (fmin3 x y z) t := by
    unfold fmin3
    have s2 : argBest (fun i j => ltV ((#[Value.float x t1, .float y t2, .float z t3] : Array Value).getD i .none) ((#[Value.float x t1, .float y t2, .float z t3] : Array Value).getD j .none)) 2 = (if ltV ((#[Value.float x t1, .float y t2, .float z t3] : Array Value).getD 2 .none) ((#[Value.float x t1, .float y t2, .float z t3] : Array Value).getD (argBest (fun i j => ltV ((#[Value.float x t1, .float y t2, .float z t3] : Array Value).getD i .none) ((#[Value.float x t1, .float y t2, .float z t3] : Array Value).getD j .none)) 1) .none) = true then 2 else argBest (fun i j => ltV ((#[Value.float x t1, .float y t2, .float z t3] : Array Value).getD i .none) ((#[Value.float x t1, .float y t2, .float z t3] : Array Value).getD j .none)) 1) := rfl
    have s1 : argBest (fun i j => ltV ((#[Value.float x t1, .float y t2, .float z t3] : Array Value).getD i .none) ((#[Value.float x t1, .float y t2, .float z t3] : Array Value).getD j .none)) 1 = (if ltV ((#[Value.float x t1, .float y t2, .float z t3] : Array Value).getD 1 .none) ((#[Value.float x t1, .float y t2, .float z t3] : Array Value).getD 0 .none) = true then 1 else 0) := rfl
    rw [s2] at hP
    by_cases c1 : (Float64.cmp y x == some .lt) = true
    · have e1 : argBest (fun i j => ltV ((#[Value.float x t1, .float y t2, .float z t3] : Array Value).getD i .none) ((#[Value.float x t1, .float y t2, .float z t3] : Array Value).getD j .none)) 1 = 1 := by rw [s1]; exact if_pos c1
      rw [e1] at hP
      rw [if_pos c1]
      replace hP : (#[Value.float x t1, .float y t2, .float z t3] : Array Value)[if ltV (Value.float z t3) (Value.float y t2) = true then 2 else 1]? = some v := hP
      by_cases c2 : (Float64.cmp z y == some .lt) = true
      · rw [if_pos c2]
        rw [if_pos (show ltV (Value.float z t3) (Value.float y t2) = true from c2)] at hP
        exact ⟨t3, (Option.some.inj hP).symm⟩
      · rw [if_neg c2]
        rw [if_neg (show ¬ ltV (Value.float z t3) (Value.float y t2) = true from c2)] at hP
        exact ⟨t2, (Option.some.inj hP).symm⟩
    · have e1 : argBest (fun i j => ltV ((#[Value.float x t1, .float y t2, .float z t3] : Array Value).getD i .none) ((#[Value.float x t1, .float y t2, .float z t3] : Array Value).getD j .none)) 1 = 0 := by rw [s1]; exact if_neg c1
      rw [e1] at hP
      rw [if_neg c1]
      replace hP : (#[Value.float x t1, .float y t2, .float z t3] : Array Value)[if ltV (Value.float z t3) (Value.float x t1) = true then 2 else 0]? = some v := hP
      by_cases c2 : (Float64.cmp z x == some .lt) = true
      · rw [if_pos c2]
        rw [if_pos (show ltV (Value.float z t3) (Value.float x t1) = true from c2)] at hP
        exact ⟨t3, (Option.some.inj hP).symm⟩
      · rw [if_neg c2]
        rw [if_neg (show ¬ ltV (Value.float z t3) (Value.float x t1) = true from c2)] at hP
        exact ⟨t1, (Option.some.inj hP).symm⟩
  obtain ⟨t, rfl⟩ := hv
  exact h h' tk t F' N'
end
end Mine
end

theorem Mine.fresh5 : True := by
  w_top off
  trivial
section
open PySem PySem.W PySem.Calls PySem.Spec PyProof.Rows
set_option maxRecDepth 100000
set_option maxHeartbeats 8000000
namespace Mine
noncomputable def hueF (r g b mx mn : UInt64) : UInt64 :=
  (Float64.divmod (Float64.div (
    if (Float64.cmp r mx == some Ordering.eq) = true then Float64.sub (Float64.div (Float64.sub mx b) (Float64.sub mx mn)) (Float64.div (Float64.sub mx g) (Float64.sub mx mn))
    else if (Float64.cmp g mx == some Ordering.eq) = true then Float64.sub (Float64.add 4611686018427387904 (Float64.div (Float64.sub mx r) (Float64.sub mx mn))) (Float64.div (Float64.sub mx b) (Float64.sub mx mn))
    else Float64.sub (Float64.add 4616189618054758400 (Float64.div (Float64.sub mx g) (Float64.sub mx mn))) (Float64.div (Float64.sub mx r) (Float64.sub mx mn)))
    4618441417868443648) 4607182418800017408).2
noncomputable def hsvF (r g b : UInt64) : UInt64 × UInt64 × UInt64 :=
  if (Float64.cmp (fmin3 r g b) (fmax3 r g b) == some Ordering.eq) = true then (0, 0, fmax3 r g b)
  else (hueF r g b (fmax3 r g b) (fmin3 r g b), Float64.div (Float64.sub (fmax3 r g b) (fmin3 r g b)) (fmax3 r g b), fmax3 r g b)
noncomputable abbrev tupO (its : Array Value) (c : Nat) : Obj := { cls := .type "tuple", data := .seq its c }
theorem hsv_back {h : Heap} {D : Addr} {r g b H S V : UInt64} {t1 t2 t3 : Tok} {c : Nat} (X : h.get? D = some (tupO #[.float H t1, .float S t2, .float V t3] c)) (e : hsvF r g b = (H, S, V)) :
    ∃ t1 t2 t3 c, h.get? D = some (tupO #[.float (hsvF r g b).1 t1, .float (hsvF r g b).2.1 t2, .float (hsvF r g b).2.2 t3] c) := by
  rw [e]; exact ⟨t1, t2, t3, c, X⟩
theorem d_hsv {w : World} {r g b : UInt64} {t1 t2 t3 : Tok} {s : Shared}
    (hz : (Float64.cmp (fmin3 r g b) (fmax3 r g b) == some Ordering.eq) = false → Float64.isZero (fmax3 r g b) = false ∧ Float64.isZero (Float64.sub (fmax3 r g b) (fmin3 r g b)) = false) :
    Does w 1 98 [.float r t1, .float g t2, .float b t3] s (fun v h => ∃ D, v = .ref D ∧ s.heap.get? D = none ∧ ∃ t1 t2 t3 c, h.get? D = some (tupO #[.float (hsvF r g b).1 t1, .float (hsvF r g b).2.1 t2, .float (hsvF r g b).2.2 t3] c)) := by
  intro p loose mean mg mb dp un gd cn cs fa ccd cl outer A₀ base h₀ L m Q E B F X T hk hd hu hret
  refine wpAny_call ?_
  k_dflt ((refine' enterP ?k1 ?k2 ?k3 ?k5 ?kA ?kF ?kK ?k6 ?k7 ?k8 ?k9 ?kB ?_ ?c2 ?c3 ?c4 ?c5; (case kA => exact rfl); (case kF => exact rfl); (case kK => assumption); (case k1 => k_asm); (case k2 => k_asm); (case k3 => k_asm); (case k5 => k_asm); (case k6 => k_is); (case k7 => k_is); (case k8 => ktr_room); (case k9 => exact BindsTo.of_eq rfl); (case c5 => decide); (case kB => exact locs rfl); (case c2 => exact rfl); (case c3 => exact rfl); (case c4 => exact rfl); k_whole; intro Lq_z hq_z Fq_z Nq_z Bq_z Xq_z Tq_z; (try dsimp only); (try k_lift Bq_z); (try k_fold)))
  (repeat' (first | (k_unfold; (try dsimp only)) | (k_end; kc_close) | (first | ((with_reducible show wpAny _ _ (eval (PySem.Expr.Name _ _) _) _ _ _); k_dflt (refine' nameX_L ?F ?v ?_ ?a ?b (by decide); (case F => k_asm); (case v => exact Eq.refl (some _)); (case a => exact Eq.refl ScopeKind.function); (case b => exact Eq.refl (some NameKind.local)); k_whole)) | ((with_reducible show wpAny _ _ (eval (PySem.Expr.BinOp (PySem.Expr.Name _ _) _ (PySem.Expr.Name _ _) _) _) _ _ _); k_dflt (refine' bin_nn ?F ?v ?v2 ?_ ?a ?b ?b2 (by decide) (by decide); (case F => k_asm); (case v => exact Eq.refl (some _)); (case a => exact Eq.refl ScopeKind.function); (case b => exact Eq.refl (some NameKind.local)); (case v2 => exact Eq.refl (some _)); (case b2 => exact Eq.refl (some NameKind.local)); k_whole)) | ((with_reducible show wpAny _ _ (eval (PySem.Expr.BinOp (PySem.Expr.Name _ _) _ _ _) _) _ _ _); k_dflt (refine' bin_n ?F ?v ?_ ?a ?b (by decide); (case F => k_asm); (case v => exact Eq.refl (some _)); (case a => exact Eq.refl ScopeKind.function); (case b => exact Eq.refl (some NameKind.local)); k_whole)) | ((with_reducible show wpAny _ _ (execs (Stmt.Assign [PySem.Expr.Name _ _] _ _ :: _) _) _ _ _); k_dflt (refine' asg ?_; k_whole)) | ((with_reducible show wpAny _ _ (storeName _ _ _) _ _ _); k_dflt (refine' st_tk ?F ?N ?_ ?a ?b; (case F => k_asm); (case N => k_asm); (case a => exact Eq.refl ScopeKind.function); (case b => exact Eq.refl (some NameKind.local)); k_whole); intro h_z tk_z F_z N_z; (try k_sweep)) | ((with_reducible show wpAny _ _ (spliced (backTo _ (starEach (PySem.Expr.Name _ _ :: _) _))) _ _ _); k_dflt (refine' sp_n ?F ?v ?_ ?a ?b (by decide); (case F => k_asm); (case v => exact Eq.refl (some _)); (case a => exact Eq.refl ScopeKind.function); (case b => exact Eq.refl (some NameKind.local)); k_whole)) | ((with_reducible show wpAny _ _ (spliced (backTo _ (starEach (PySem.Expr.Constant (PySem.Const.int _) _ _ :: _) _))) _ _ _); k_dflt (refine' sp_c ?_; k_whole)) | ((with_reducible show wpAny _ _ (call (Value.builtin "min") [Value.float _ _, Value.float _ _, Value.float _ _]) _ _ _); k_dflt (refine' min3_fff ?k1 ?k2 ?k3 ?_; (case k1 => rfl); (case k2 => k_asm); (case k3 => k_asm); k_whole); intro hq_z tkq_z tq_z Fq_z Nq_z; (try k_sweep)) | ((with_reducible show wpAny _ _ (call (Value.builtin "max") [Value.float _ _, Value.float _ _, Value.float _ _]) _ _ _); k_dflt (refine' max3_fff ?k1 ?k2 ?k3 ?_; (case k1 => rfl); (case k2 => k_asm); (case k3 => k_asm); k_whole); intro hq_z tkq_z tq_z Fq_z Nq_z; (try k_sweep)) | walk1) | (dsimp only; (first | ((with_reducible show wpAny _ _ (eval (PySem.Expr.Name _ _) _) _ _ _); k_dflt (refine' nameX_L ?F ?v ?_ ?a ?b (by decide); (case F => k_asm); (case v => exact Eq.refl (some _)); (case a => exact Eq.refl ScopeKind.function); (case b => exact Eq.refl (some NameKind.local)); k_whole)) | ((with_reducible show wpAny _ _ (eval (PySem.Expr.BinOp (PySem.Expr.Name _ _) _ (PySem.Expr.Name _ _) _) _) _ _ _); k_dflt (refine' bin_nn ?F ?v ?v2 ?_ ?a ?b ?b2 (by decide) (by decide); (case F => k_asm); (case v => exact Eq.refl (some _)); (case a => exact Eq.refl ScopeKind.function); (case b => exact Eq.refl (some NameKind.local)); (case v2 => exact Eq.refl (some _)); (case b2 => exact Eq.refl (some NameKind.local)); k_whole)) | ((with_reducible show wpAny _ _ (eval (PySem.Expr.BinOp (PySem.Expr.Name _ _) _ _ _) _) _ _ _); k_dflt (refine' bin_n ?F ?v ?_ ?a ?b (by decide); (case F => k_asm); (case v => exact Eq.refl (some _)); (case a => exact Eq.refl ScopeKind.function); (case b => exact Eq.refl (some NameKind.local)); k_whole)) | ((with_reducible show wpAny _ _ (execs (Stmt.Assign [PySem.Expr.Name _ _] _ _ :: _) _) _ _ _); k_dflt (refine' asg ?_; k_whole)) | ((with_reducible show wpAny _ _ (storeName _ _ _) _ _ _); k_dflt (refine' st_tk ?F ?N ?_ ?a ?b; (case F => k_asm); (case N => k_asm); (case a => exact Eq.refl ScopeKind.function); (case b => exact Eq.refl (some NameKind.local)); k_whole); intro h_z tk_z F_z N_z; (try k_sweep)) | ((with_reducible show wpAny _ _ (spliced (backTo _ (starEach (PySem.Expr.Name _ _ :: _) _))) _ _ _); k_dflt (refine' sp_n ?F ?v ?_ ?a ?b (by decide); (case F => k_asm); (case v => exact Eq.refl (some _)); (case a => exact Eq.refl ScopeKind.function); (case b => exact Eq.refl (some NameKind.local)); k_whole)) | ((with_reducible show wpAny _ _ (spliced (backTo _ (starEach (PySem.Expr.Constant (PySem.Const.int _) _ _ :: _) _))) _ _ _); k_dflt (refine' sp_c ?_; k_whole)) | ((with_reducible show wpAny _ _ (call (Value.builtin "min") [Value.float _ _, Value.float _ _, Value.float _ _]) _ _ _); k_dflt (refine' min3_fff ?k1 ?k2 ?k3 ?_; (case k1 => rfl); (case k2 => k_asm); (case k3 => k_asm); k_whole); intro hq_z tkq_z tq_z Fq_z Nq_z; (try k_sweep)) | ((with_reducible show wpAny _ _ (call (Value.builtin "max") [Value.float _ _, Value.float _ _, Value.float _ _]) _ _ _); k_dflt (refine' max3_fff ?k1 ?k2 ?k3 ?_; (case k1 => rfl); (case k2 => k_asm); (case k3 => k_asm); k_whole); intro hq_z tkq_z tq_z Fq_z Nq_z; (try k_sweep)) | walk1)) | (leave1; walk_say "STEP leave1"; (try dsimp only)) | fail "no step"))
  all_goals first
    | (exfalso; rename (Float64.cmp (fmin3 r g b) (fmax3 r g b) == some Ordering.eq) = false => hc
       first
        | exact absurd ‹Float64.isZero (fmax3 r g b) = true› (by rw [(hz hc).1]; decide)
        | exact absurd ‹Float64.isZero (Float64.sub (fmax3 r g b) (fmin3 r g b)) = true› (by rw [(hz hc).2]; decide))
    | ((rename News _ _ _ _ => N9)
       refine hret _ _ _ (Fr.keep (by assumption)) ⟨_, rfl, (N9 _ (List.Mem.head _)).2.2, hsv_back (N9 _ (List.Mem.head _)).1 ?_⟩
       simp only [hsvF, hueF, *, if_true, if_false, Bool.false_eq_true]
       done)
    | skip
end Mine
end

theorem Mine.fresh6 : True := by
  w_top off
  trivial
section
open PySem PySem.W PySem.Calls PySem.Spec PyProof.Rows
set_option maxRecDepth 100000
set_option maxHeartbeats 8000000
namespace Mine

noncomputable def hlsL (r g b : UInt64) : UInt64 := Float64.div (Float64.add (fmax3 r g b) (fmin3 r g b)) 4611686018427387904
noncomputable def hlsLow (r g b : UInt64) : Bool := Float64.cmp (Float64.div (Float64.add (fmax3 r g b) (fmin3 r g b)) 4611686018427387904) 4602678819172646912 == some Ordering.lt || Float64.cmp (Float64.div (Float64.add (fmax3 r g b) (fmin3 r g b)) 4611686018427387904) 4602678819172646912 == some Ordering.eq
noncomputable def hlsF (r g b : UInt64) : UInt64 × UInt64 × UInt64 :=
  if (Float64.cmp (fmin3 r g b) (fmax3 r g b) == some Ordering.eq) = true then (0, hlsL r g b, 0)
  else (hueF r g b (fmax3 r g b) (fmin3 r g b), hlsL r g b,
    if hlsLow r g b = true then Float64.div (Float64.sub (fmax3 r g b) (fmin3 r g b)) (Float64.add (fmax3 r g b) (fmin3 r g b))
    else Float64.div (Float64.sub (fmax3 r g b) (fmin3 r g b)) (Float64.sub (Float64.sub 4611686018427387904 (fmax3 r g b)) (fmin3 r g b)))
theorem hls_back {h : Heap} {D : Addr} {r g b H S V : UInt64} {t1 t2 t3 : Tok} {c : Nat} (X : h.get? D = some (tupO #[.float H t1, .float S t2, .float V t3] c)) (e : hlsF r g b = (H, S, V)) :
    ∃ t1 t2 t3 c, h.get? D = some (tupO #[.float (hlsF r g b).1 t1, .float (hlsF r g b).2.1 t2, .float (hlsF r g b).2.2 t3] c) := by
  rw [e]; exact ⟨t1, t2, t3, c, X⟩
theorem d_hls {w : World} {r g b : UInt64} {t1 t2 t3 : Tok} {s : Shared}
    (hz : (Float64.cmp (fmin3 r g b) (fmax3 r g b) == some Ordering.eq) = false → Float64.isZero (Float64.sub (fmax3 r g b) (fmin3 r g b)) = false ∧ (hlsLow r g b = true → Float64.isZero (Float64.add (fmax3 r g b) (fmin3 r g b)) = false) ∧
      (hlsLow r g b = false → Float64.isZero (Float64.sub (Float64.sub 4611686018427387904 (fmax3 r g b)) (fmin3 r g b)) = false)) :
    Does w 1 91 [.float r t1, .float g t2, .float b t3] s (fun v h => ∃ D, v = .ref D ∧ s.heap.get? D = none ∧ ∃ t1 t2 t3 c, h.get? D = some (tupO #[.float (hlsF r g b).1 t1, .float (hlsF r g b).2.1 t2, .float (hlsF r g b).2.2 t3] c)) := by
  intro p loose mean mg mb dp un gd cn cs fa ccd cl outer A₀ base h₀ L m Q E B F X T hk hd hu hret
  refine wpAny_call ?_
  k_dflt ((refine' enterP ?k1 ?k2 ?k3 ?k5 ?kA ?kF ?kK ?k6 ?k7 ?k8 ?k9 ?kB ?_ ?c2 ?c3 ?c4 ?c5; (case kA => exact rfl); (case kF => exact rfl); (case kK => assumption); (case k1 => k_asm); (case k2 => k_asm); (case k3 => k_asm); (case k5 => k_asm); (case k6 => k_is); (case k7 => k_is); (case k8 => ktr_room); (case k9 => exact BindsTo.of_eq rfl); (case c5 => decide); (case kB => exact locs rfl); (case c2 => exact rfl); (case c3 => exact rfl); (case c4 => exact rfl); k_whole; intro Lq_z hq_z Fq_z Nq_z Bq_z Xq_z Tq_z; (try dsimp only); (try k_lift Bq_z); (try k_fold)))
  (repeat' (first | (k_unfold; (try dsimp only)) | (k_end; kc_close) | (first | ((with_reducible show wpAny _ _ (eval (PySem.Expr.Name _ _) _) _ _ _); k_dflt (refine' nameX_L ?F ?v ?_ ?a ?b (by decide); (case F => k_asm); (case v => exact Eq.refl (some _)); (case a => exact Eq.refl ScopeKind.function); (case b => exact Eq.refl (some NameKind.local)); k_whole)) | ((with_reducible show wpAny _ _ (eval (PySem.Expr.BinOp (PySem.Expr.Name _ _) _ (PySem.Expr.Name _ _) _) _) _ _ _); k_dflt (refine' bin_nn ?F ?v ?v2 ?_ ?a ?b ?b2 (by decide) (by decide); (case F => k_asm); (case v => exact Eq.refl (some _)); (case a => exact Eq.refl ScopeKind.function); (case b => exact Eq.refl (some NameKind.local)); (case v2 => exact Eq.refl (some _)); (case b2 => exact Eq.refl (some NameKind.local)); k_whole)) | ((with_reducible show wpAny _ _ (eval (PySem.Expr.BinOp (PySem.Expr.Name _ _) _ _ _) _) _ _ _); k_dflt (refine' bin_n ?F ?v ?_ ?a ?b (by decide); (case F => k_asm); (case v => exact Eq.refl (some _)); (case a => exact Eq.refl ScopeKind.function); (case b => exact Eq.refl (some NameKind.local)); k_whole)) | ((with_reducible show wpAny _ _ (execs (Stmt.Assign [PySem.Expr.Name _ _] _ _ :: _) _) _ _ _); k_dflt (refine' asg ?_; k_whole)) | ((with_reducible show wpAny _ _ (storeName _ _ _) _ _ _); k_dflt (refine' st_tk ?F ?N ?_ ?a ?b; (case F => k_asm); (case N => k_asm); (case a => exact Eq.refl ScopeKind.function); (case b => exact Eq.refl (some NameKind.local)); k_whole); intro h_z tk_z F_z N_z; (try k_sweep)) | ((with_reducible show wpAny _ _ (spliced (backTo _ (starEach (PySem.Expr.Name _ _ :: _) _))) _ _ _); k_dflt (refine' sp_n ?F ?v ?_ ?a ?b (by decide); (case F => k_asm); (case v => exact Eq.refl (some _)); (case a => exact Eq.refl ScopeKind.function); (case b => exact Eq.refl (some NameKind.local)); k_whole)) | ((with_reducible show wpAny _ _ (spliced (backTo _ (starEach (PySem.Expr.Constant (PySem.Const.int _) _ _ :: _) _))) _ _ _); k_dflt (refine' sp_c ?_; k_whole)) | ((with_reducible show wpAny _ _ (call (Value.builtin "min") [Value.float _ _, Value.float _ _, Value.float _ _]) _ _ _); k_dflt (refine' min3_fff ?k1 ?k2 ?k3 ?_; (case k1 => rfl); (case k2 => k_asm); (case k3 => k_asm); k_whole); intro hq_z tkq_z tq_z Fq_z Nq_z; (try k_sweep)) | ((with_reducible show wpAny _ _ (call (Value.builtin "max") [Value.float _ _, Value.float _ _, Value.float _ _]) _ _ _); k_dflt (refine' max3_fff ?k1 ?k2 ?k3 ?_; (case k1 => rfl); (case k2 => k_asm); (case k3 => k_asm); k_whole); intro hq_z tkq_z tq_z Fq_z Nq_z; (try k_sweep)) | walk1) | (dsimp only; (first | ((with_reducible show wpAny _ _ (eval (PySem.Expr.Name _ _) _) _ _ _); k_dflt (refine' nameX_L ?F ?v ?_ ?a ?b (by decide); (case F => k_asm); (case v => exact Eq.refl (some _)); (case a => exact Eq.refl ScopeKind.function); (case b => exact Eq.refl (some NameKind.local)); k_whole)) | ((with_reducible show wpAny _ _ (eval (PySem.Expr.BinOp (PySem.Expr.Name _ _) _ (PySem.Expr.Name _ _) _) _) _ _ _); k_dflt (refine' bin_nn ?F ?v ?v2 ?_ ?a ?b ?b2 (by decide) (by decide); (case F => k_asm); (case v => exact Eq.refl (some _)); (case a => exact Eq.refl ScopeKind.function); (case b => exact Eq.refl (some NameKind.local)); (case v2 => exact Eq.refl (some _)); (case b2 => exact Eq.refl (some NameKind.local)); k_whole)) | ((with_reducible show wpAny _ _ (eval (PySem.Expr.BinOp (PySem.Expr.Name _ _) _ _ _) _) _ _ _); k_dflt (refine' bin_n ?F ?v ?_ ?a ?b (by decide); (case F => k_asm); (case v => exact Eq.refl (some _)); (case a => exact Eq.refl ScopeKind.function); (case b => exact Eq.refl (some NameKind.local)); k_whole)) | ((with_reducible show wpAny _ _ (execs (Stmt.Assign [PySem.Expr.Name _ _] _ _ :: _) _) _ _ _); k_dflt (refine' asg ?_; k_whole)) | ((with_reducible show wpAny _ _ (storeName _ _ _) _ _ _); k_dflt (refine' st_tk ?F ?N ?_ ?a ?b; (case F => k_asm); (case N => k_asm); (case a => exact Eq.refl ScopeKind.function); (case b => exact Eq.refl (some NameKind.local)); k_whole); intro h_z tk_z F_z N_z; (try k_sweep)) | ((with_reducible show wpAny _ _ (spliced (backTo _ (starEach (PySem.Expr.Name _ _ :: _) _))) _ _ _); k_dflt (refine' sp_n ?F ?v ?_ ?a ?b (by decide); (case F => k_asm); (case v => exact Eq.refl (some _)); (case a => exact Eq.refl ScopeKind.function); (case b => exact Eq.refl (some NameKind.local)); k_whole)) | ((with_reducible show wpAny _ _ (spliced (backTo _ (starEach (PySem.Expr.Constant (PySem.Const.int _) _ _ :: _) _))) _ _ _); k_dflt (refine' sp_c ?_; k_whole)) | ((with_reducible show wpAny _ _ (call (Value.builtin "min") [Value.float _ _, Value.float _ _, Value.float _ _]) _ _ _); k_dflt (refine' min3_fff ?k1 ?k2 ?k3 ?_; (case k1 => rfl); (case k2 => k_asm); (case k3 => k_asm); k_whole); intro hq_z tkq_z tq_z Fq_z Nq_z; (try k_sweep)) | ((with_reducible show wpAny _ _ (call (Value.builtin "max") [Value.float _ _, Value.float _ _, Value.float _ _]) _ _ _); k_dflt (refine' max3_fff ?k1 ?k2 ?k3 ?_; (case k1 => rfl); (case k2 => k_asm); (case k3 => k_asm); k_whole); intro hq_z tkq_z tq_z Fq_z Nq_z; (try k_sweep)) | walk1)) | (leave1; walk_say "STEP leave1"; (try dsimp only)) | fail "no step"))
  all_goals first
    | (exfalso; rename (Float64.cmp (fmin3 r g b) (fmax3 r g b) == some Ordering.eq) = false => hc
       first
        | exact absurd ‹Float64.isZero (Float64.sub (fmax3 r g b) (fmin3 r g b)) = true› (by rw [(hz hc).1]; decide)
        | exact absurd ‹Float64.isZero (Float64.add (fmax3 r g b) (fmin3 r g b)) = true› (by rw [(hz hc).2.1 (by assumption)]; decide)
        | exact absurd ‹Float64.isZero (Float64.sub (Float64.sub 4611686018427387904 (fmax3 r g b)) (fmin3 r g b)) = true› (by rw [(hz hc).2.2 (by assumption)]; decide))
    | ((rename News _ _ _ _ => N9)
       refine hret _ _ _ (Fr.keep (by assumption)) ⟨_, rfl, (N9 _ (List.Mem.head _)).2.2, hls_back (N9 _ (List.Mem.head _)).1 ?_⟩
       simp only [hlsF, hlsL, hlsLow, hueF, *, if_true, if_false, Bool.false_eq_true]
       done)
    | skip
end Mine
end

theorem Mine.fresh7 : True := by
  w_top off
  trivial
section
open PySem PySem.W PySem.Calls PySem.Spec PyProof.Rows
set_option maxRecDepth 100000
set_option maxHeartbeats 8000000
namespace Mine

noncomputable abbrev lstO (its : Array Value) (c : Nat) : Obj := W.listOf its c
noncomputable def colR (x : Int) : Int := (x.fdiv 4000).fmod 29 + ((x.fdiv 1000).fmod 4 + 1) * x.fmod 10
noncomputable def colG (x : Int) : Int := (x.fdiv 4000).fmod 29 + ((x.fdiv 1000).fmod 4 + 1) * (x.fdiv 10).fmod 10
noncomputable def colB (x : Int) : Int := (x.fdiv 4000).fmod 29 + ((x.fdiv 1000).fmod 4 + 1) * (x.fdiv 100).fmod 10
theorem d_col {w : World} {x : Int} {t1 : Tok} {s : Shared} : Does w 1 112 [.int x t1] s (fun v h => ∃ D, v = .ref D ∧ s.heap.get? D = none ∧ ∃ t1 t2 t3 c, h.get? D = some (lstO #[.int (colR x) t1, .int (colG x) t2, .int (colB x) t3] c)) := by
  intro p loose mean mg mb dp un gd cn cs fa ccd cl outer A₀ base h₀ L m Q E B F X T hk hd hu hret
  refine wpAny_call ?_
  k_dflt ((refine' enterP ?k1 ?k2 ?k3 ?k5 ?kA ?kF ?kK ?k6 ?k7 ?k8 ?k9 ?kB ?_ ?c2 ?c3 ?c4 ?c5; (case kA => exact rfl); (case kF => exact rfl); (case kK => assumption); (case k1 => k_asm); (case k2 => k_asm); (case k3 => k_asm); (case k5 => k_asm); (case k6 => k_is); (case k7 => k_is); (case k8 => ktr_room); (case k9 => exact BindsTo.of_eq rfl); (case c5 => decide); (case kB => exact locs rfl); (case c2 => exact rfl); (case c3 => exact rfl); (case c4 => exact rfl); k_whole; intro Lq_z hq_z Fq_z Nq_z Bq_z Xq_z Tq_z; (try dsimp only); (try k_lift Bq_z); (try k_fold)))
  (repeat' (first | (k_unfold; (try dsimp only)) | (k_end; kc_close) | (first | ((with_reducible show wpAny _ _ (eval (PySem.Expr.Name _ _) _) _ _ _); k_dflt (refine' nameX_L ?F ?v ?_ ?a ?b (by decide); (case F => k_asm); (case v => exact Eq.refl (some _)); (case a => exact Eq.refl ScopeKind.function); (case b => exact Eq.refl (some NameKind.local)); k_whole)) | ((with_reducible show wpAny _ _ (eval (PySem.Expr.BinOp (PySem.Expr.Name _ _) _ (PySem.Expr.Name _ _) _) _) _ _ _); k_dflt (refine' bin_nn ?F ?v ?v2 ?_ ?a ?b ?b2 (by decide) (by decide); (case F => k_asm); (case v => exact Eq.refl (some _)); (case a => exact Eq.refl ScopeKind.function); (case b => exact Eq.refl (some NameKind.local)); (case v2 => exact Eq.refl (some _)); (case b2 => exact Eq.refl (some NameKind.local)); k_whole)) | ((with_reducible show wpAny _ _ (eval (PySem.Expr.BinOp (PySem.Expr.Name _ _) _ _ _) _) _ _ _); k_dflt (refine' bin_n ?F ?v ?_ ?a ?b (by decide); (case F => k_asm); (case v => exact Eq.refl (some _)); (case a => exact Eq.refl ScopeKind.function); (case b => exact Eq.refl (some NameKind.local)); k_whole)) | ((with_reducible show wpAny _ _ (execs (Stmt.Assign [PySem.Expr.Name _ _] _ _ :: _) _) _ _ _); k_dflt (refine' asg ?_; k_whole)) | ((with_reducible show wpAny _ _ (storeName _ _ _) _ _ _); k_dflt (refine' st_tk ?F ?N ?_ ?a ?b; (case F => k_asm); (case N => k_asm); (case a => exact Eq.refl ScopeKind.function); (case b => exact Eq.refl (some NameKind.local)); k_whole); intro h_z tk_z F_z N_z; (try k_sweep)) | ((with_reducible show wpAny _ _ (spliced (backTo _ (starEach (PySem.Expr.Name _ _ :: _) _))) _ _ _); k_dflt (refine' sp_n ?F ?v ?_ ?a ?b (by decide); (case F => k_asm); (case v => exact Eq.refl (some _)); (case a => exact Eq.refl ScopeKind.function); (case b => exact Eq.refl (some NameKind.local)); k_whole)) | ((with_reducible show wpAny _ _ (spliced (backTo _ (starEach (PySem.Expr.Constant (PySem.Const.int _) _ _ :: _) _))) _ _ _); k_dflt (refine' sp_c ?_; k_whole)) | walk1) | (dsimp only; (first | ((with_reducible show wpAny _ _ (eval (PySem.Expr.Name _ _) _) _ _ _); k_dflt (refine' nameX_L ?F ?v ?_ ?a ?b (by decide); (case F => k_asm); (case v => exact Eq.refl (some _)); (case a => exact Eq.refl ScopeKind.function); (case b => exact Eq.refl (some NameKind.local)); k_whole)) | ((with_reducible show wpAny _ _ (eval (PySem.Expr.BinOp (PySem.Expr.Name _ _) _ (PySem.Expr.Name _ _) _) _) _ _ _); k_dflt (refine' bin_nn ?F ?v ?v2 ?_ ?a ?b ?b2 (by decide) (by decide); (case F => k_asm); (case v => exact Eq.refl (some _)); (case a => exact Eq.refl ScopeKind.function); (case b => exact Eq.refl (some NameKind.local)); (case v2 => exact Eq.refl (some _)); (case b2 => exact Eq.refl (some NameKind.local)); k_whole)) | ((with_reducible show wpAny _ _ (eval (PySem.Expr.BinOp (PySem.Expr.Name _ _) _ _ _) _) _ _ _); k_dflt (refine' bin_n ?F ?v ?_ ?a ?b (by decide); (case F => k_asm); (case v => exact Eq.refl (some _)); (case a => exact Eq.refl ScopeKind.function); (case b => exact Eq.refl (some NameKind.local)); k_whole)) | ((with_reducible show wpAny _ _ (execs (Stmt.Assign [PySem.Expr.Name _ _] _ _ :: _) _) _ _ _); k_dflt (refine' asg ?_; k_whole)) | ((with_reducible show wpAny _ _ (storeName _ _ _) _ _ _); k_dflt (refine' st_tk ?F ?N ?_ ?a ?b; (case F => k_asm); (case N => k_asm); (case a => exact Eq.refl ScopeKind.function); (case b => exact Eq.refl (some NameKind.local)); k_whole); intro h_z tk_z F_z N_z; (try k_sweep)) | ((with_reducible show wpAny _ _ (spliced (backTo _ (starEach (PySem.Expr.Name _ _ :: _) _))) _ _ _); k_dflt (refine' sp_n ?F ?v ?_ ?a ?b (by decide); (case F => k_asm); (case v => exact Eq.refl (some _)); (case a => exact Eq.refl ScopeKind.function); (case b => exact Eq.refl (some NameKind.local)); k_whole)) | ((with_reducible show wpAny _ _ (spliced (backTo _ (starEach (PySem.Expr.Constant (PySem.Const.int _) _ _ :: _) _))) _ _ _); k_dflt (refine' sp_c ?_; k_whole)) | walk1)) | (leave1; walk_say "STEP leave1"; (try dsimp only)) | fail "no step"))
  (rename News _ _ _ _ => N9)
  exact hret _ _ _ (Fr.keep (by assumption)) ⟨_, rfl, (N9 _ (List.Mem.head _)).2.2, _, _, _, _, (N9 _ (List.Mem.head _)).1⟩

noncomputable def sgnI (a b : Int) : Int := b2i (decide (a > b)) - b2i (decide (a < b))
noncomputable def sgnF (a b : UInt64) : Int := b2i (Float64.cmp a b == some .gt) - b2i (Float64.cmp a b == some .lt)
theorem d_sign {w : World} {a b : Int} {t1 t2 : Tok} {s : Shared} : Does w 1 124 [.int a t1, .int b t2] s (fun v _ => ∃ t, v = .int (sgnI a b) t) := by
  intro p loose mean mg mb dp un gd cn cs fa ccd cl outer A₀ base h₀ L m Q E B F X T hk hd hu hret
  refine wpAny_call ?_
  k_dflt ((refine' enterP ?k1 ?k2 ?k3 ?k5 ?kA ?kF ?kK ?k6 ?k7 ?k8 ?k9 ?kB ?_ ?c2 ?c3 ?c4 ?c5; (case kA => exact rfl); (case kF => exact rfl); (case kK => assumption); (case k1 => k_asm); (case k2 => k_asm); (case k3 => k_asm); (case k5 => k_asm); (case k6 => k_is); (case k7 => k_is); (case k8 => ktr_room); (case k9 => exact BindsTo.of_eq rfl); (case c5 => decide); (case kB => exact locs rfl); (case c2 => exact rfl); (case c3 => exact rfl); (case c4 => exact rfl); k_whole; intro Lq_z hq_z Fq_z Nq_z Bq_z Xq_z Tq_z; (try dsimp only); (try k_lift Bq_z); (try k_fold)))
  (repeat' (first | (k_unfold; (try dsimp only)) | (k_end; kc_close) | (first | ((with_reducible show wpAny _ _ (eval (PySem.Expr.Name _ _) _) _ _ _); k_dflt (refine' nameX_L ?F ?v ?_ ?a ?b (by decide); (case F => k_asm); (case v => exact Eq.refl (some _)); (case a => exact Eq.refl ScopeKind.function); (case b => exact Eq.refl (some NameKind.local)); k_whole)) | ((with_reducible show wpAny _ _ (eval (PySem.Expr.BinOp (PySem.Expr.Name _ _) _ (PySem.Expr.Name _ _) _) _) _ _ _); k_dflt (refine' bin_nn ?F ?v ?v2 ?_ ?a ?b ?b2 (by decide) (by decide); (case F => k_asm); (case v => exact Eq.refl (some _)); (case a => exact Eq.refl ScopeKind.function); (case b => exact Eq.refl (some NameKind.local)); (case v2 => exact Eq.refl (some _)); (case b2 => exact Eq.refl (some NameKind.local)); k_whole)) | ((with_reducible show wpAny _ _ (eval (PySem.Expr.BinOp (PySem.Expr.Name _ _) _ _ _) _) _ _ _); k_dflt (refine' bin_n ?F ?v ?_ ?a ?b (by decide); (case F => k_asm); (case v => exact Eq.refl (some _)); (case a => exact Eq.refl ScopeKind.function); (case b => exact Eq.refl (some NameKind.local)); k_whole)) | ((with_reducible show wpAny _ _ (execs (Stmt.Assign [PySem.Expr.Name _ _] _ _ :: _) _) _ _ _); k_dflt (refine' asg ?_; k_whole)) | ((with_reducible show wpAny _ _ (storeName _ _ _) _ _ _); k_dflt (refine' st_tk ?F ?N ?_ ?a ?b; (case F => k_asm); (case N => k_asm); (case a => exact Eq.refl ScopeKind.function); (case b => exact Eq.refl (some NameKind.local)); k_whole); intro h_z tk_z F_z N_z; (try k_sweep)) | ((with_reducible show wpAny _ _ (spliced (backTo _ (starEach (PySem.Expr.Name _ _ :: _) _))) _ _ _); k_dflt (refine' sp_n ?F ?v ?_ ?a ?b (by decide); (case F => k_asm); (case v => exact Eq.refl (some _)); (case a => exact Eq.refl ScopeKind.function); (case b => exact Eq.refl (some NameKind.local)); k_whole)) | ((with_reducible show wpAny _ _ (spliced (backTo _ (starEach (PySem.Expr.Constant (PySem.Const.int _) _ _ :: _) _))) _ _ _); k_dflt (refine' sp_c ?_; k_whole)) | walk1) | (dsimp only; (first | ((with_reducible show wpAny _ _ (eval (PySem.Expr.Name _ _) _) _ _ _); k_dflt (refine' nameX_L ?F ?v ?_ ?a ?b (by decide); (case F => k_asm); (case v => exact Eq.refl (some _)); (case a => exact Eq.refl ScopeKind.function); (case b => exact Eq.refl (some NameKind.local)); k_whole)) | ((with_reducible show wpAny _ _ (eval (PySem.Expr.BinOp (PySem.Expr.Name _ _) _ (PySem.Expr.Name _ _) _) _) _ _ _); k_dflt (refine' bin_nn ?F ?v ?v2 ?_ ?a ?b ?b2 (by decide) (by decide); (case F => k_asm); (case v => exact Eq.refl (some _)); (case a => exact Eq.refl ScopeKind.function); (case b => exact Eq.refl (some NameKind.local)); (case v2 => exact Eq.refl (some _)); (case b2 => exact Eq.refl (some NameKind.local)); k_whole)) | ((with_reducible show wpAny _ _ (eval (PySem.Expr.BinOp (PySem.Expr.Name _ _) _ _ _) _) _ _ _); k_dflt (refine' bin_n ?F ?v ?_ ?a ?b (by decide); (case F => k_asm); (case v => exact Eq.refl (some _)); (case a => exact Eq.refl ScopeKind.function); (case b => exact Eq.refl (some NameKind.local)); k_whole)) | ((with_reducible show wpAny _ _ (execs (Stmt.Assign [PySem.Expr.Name _ _] _ _ :: _) _) _ _ _); k_dflt (refine' asg ?_; k_whole)) | ((with_reducible show wpAny _ _ (storeName _ _ _) _ _ _); k_dflt (refine' st_tk ?F ?N ?_ ?a ?b; (case F => k_asm); (case N => k_asm); (case a => exact Eq.refl ScopeKind.function); (case b => exact Eq.refl (some NameKind.local)); k_whole); intro h_z tk_z F_z N_z; (try k_sweep)) | ((with_reducible show wpAny _ _ (spliced (backTo _ (starEach (PySem.Expr.Name _ _ :: _) _))) _ _ _); k_dflt (refine' sp_n ?F ?v ?_ ?a ?b (by decide); (case F => k_asm); (case v => exact Eq.refl (some _)); (case a => exact Eq.refl ScopeKind.function); (case b => exact Eq.refl (some NameKind.local)); k_whole)) | ((with_reducible show wpAny _ _ (spliced (backTo _ (starEach (PySem.Expr.Constant (PySem.Const.int _) _ _ :: _) _))) _ _ _); k_dflt (refine' sp_c ?_; k_whole)) | walk1)) | (leave1; walk_say "STEP leave1"; (try dsimp only)) | fail "no step"))
  exact hret _ _ _ (Fr.keep (by assumption)) ⟨_, rfl⟩
theorem d_signF {w : World} {a b : UInt64} {t1 t2 : Tok} {s : Shared} : Does w 1 124 [.float a t1, .float b t2] s (fun v _ => ∃ t, v = .int (sgnF a b) t) := by
  intro p loose mean mg mb dp un gd cn cs fa ccd cl outer A₀ base h₀ L m Q E B F X T hk hd hu hret
  refine wpAny_call ?_
  k_dflt ((refine' enterP ?k1 ?k2 ?k3 ?k5 ?kA ?kF ?kK ?k6 ?k7 ?k8 ?k9 ?kB ?_ ?c2 ?c3 ?c4 ?c5; (case kA => exact rfl); (case kF => exact rfl); (case kK => assumption); (case k1 => k_asm); (case k2 => k_asm); (case k3 => k_asm); (case k5 => k_asm); (case k6 => k_is); (case k7 => k_is); (case k8 => ktr_room); (case k9 => exact BindsTo.of_eq rfl); (case c5 => decide); (case kB => exact locs rfl); (case c2 => exact rfl); (case c3 => exact rfl); (case c4 => exact rfl); k_whole; intro Lq_z hq_z Fq_z Nq_z Bq_z Xq_z Tq_z; (try dsimp only); (try k_lift Bq_z); (try k_fold)))
  (repeat' (first | (k_unfold; (try dsimp only)) | (k_end; kc_close) | (first | ((with_reducible show wpAny _ _ (eval (PySem.Expr.Name _ _) _) _ _ _); k_dflt (refine' nameX_L ?F ?v ?_ ?a ?b (by decide); (case F => k_asm); (case v => exact Eq.refl (some _)); (case a => exact Eq.refl ScopeKind.function); (case b => exact Eq.refl (some NameKind.local)); k_whole)) | ((with_reducible show wpAny _ _ (eval (PySem.Expr.BinOp (PySem.Expr.Name _ _) _ (PySem.Expr.Name _ _) _) _) _ _ _); k_dflt (refine' bin_nn ?F ?v ?v2 ?_ ?a ?b ?b2 (by decide) (by decide); (case F => k_asm); (case v => exact Eq.refl (some _)); (case a => exact Eq.refl ScopeKind.function); (case b => exact Eq.refl (some NameKind.local)); (case v2 => exact Eq.refl (some _)); (case b2 => exact Eq.refl (some NameKind.local)); k_whole)) | ((with_reducible show wpAny _ _ (eval (PySem.Expr.BinOp (PySem.Expr.Name _ _) _ _ _) _) _ _ _); k_dflt (refine' bin_n ?F ?v ?_ ?a ?b (by decide); (case F => k_asm); (case v => exact Eq.refl (some _)); (case a => exact Eq.refl ScopeKind.function); (case b => exact Eq.refl (some NameKind.local)); k_whole)) | ((with_reducible show wpAny _ _ (execs (Stmt.Assign [PySem.Expr.Name _ _] _ _ :: _) _) _ _ _); k_dflt (refine' asg ?_; k_whole)) | ((with_reducible show wpAny _ _ (storeName _ _ _) _ _ _); k_dflt (refine' st_tk ?F ?N ?_ ?a ?b; (case F => k_asm); (case N => k_asm); (case a => exact Eq.refl ScopeKind.function); (case b => exact Eq.refl (some NameKind.local)); k_whole); intro h_z tk_z F_z N_z; (try k_sweep)) | ((with_reducible show wpAny _ _ (spliced (backTo _ (starEach (PySem.Expr.Name _ _ :: _) _))) _ _ _); k_dflt (refine' sp_n ?F ?v ?_ ?a ?b (by decide); (case F => k_asm); (case v => exact Eq.refl (some _)); (case a => exact Eq.refl ScopeKind.function); (case b => exact Eq.refl (some NameKind.local)); k_whole)) | ((with_reducible show wpAny _ _ (spliced (backTo _ (starEach (PySem.Expr.Constant (PySem.Const.int _) _ _ :: _) _))) _ _ _); k_dflt (refine' sp_c ?_; k_whole)) | walk1) | (dsimp only; (first | ((with_reducible show wpAny _ _ (eval (PySem.Expr.Name _ _) _) _ _ _); k_dflt (refine' nameX_L ?F ?v ?_ ?a ?b (by decide); (case F => k_asm); (case v => exact Eq.refl (some _)); (case a => exact Eq.refl ScopeKind.function); (case b => exact Eq.refl (some NameKind.local)); k_whole)) | ((with_reducible show wpAny _ _ (eval (PySem.Expr.BinOp (PySem.Expr.Name _ _) _ (PySem.Expr.Name _ _) _) _) _ _ _); k_dflt (refine' bin_nn ?F ?v ?v2 ?_ ?a ?b ?b2 (by decide) (by decide); (case F => k_asm); (case v => exact Eq.refl (some _)); (case a => exact Eq.refl ScopeKind.function); (case b => exact Eq.refl (some NameKind.local)); (case v2 => exact Eq.refl (some _)); (case b2 => exact Eq.refl (some NameKind.local)); k_whole)) | ((with_reducible show wpAny _ _ (eval (PySem.Expr.BinOp (PySem.Expr.Name _ _) _ _ _) _) _ _ _); k_dflt (refine' bin_n ?F ?v ?_ ?a ?b (by decide); (case F => k_asm); (case v => exact Eq.refl (some _)); (case a => exact Eq.refl ScopeKind.function); (case b => exact Eq.refl (some NameKind.local)); k_whole)) | ((with_reducible show wpAny _ _ (execs (Stmt.Assign [PySem.Expr.Name _ _] _ _ :: _) _) _ _ _); k_dflt (refine' asg ?_; k_whole)) | ((with_reducible show wpAny _ _ (storeName _ _ _) _ _ _); k_dflt (refine' st_tk ?F ?N ?_ ?a ?b; (case F => k_asm); (case N => k_asm); (case a => exact Eq.refl ScopeKind.function); (case b => exact Eq.refl (some NameKind.local)); k_whole); intro h_z tk_z F_z N_z; (try k_sweep)) | ((with_reducible show wpAny _ _ (spliced (backTo _ (starEach (PySem.Expr.Name _ _ :: _) _))) _ _ _); k_dflt (refine' sp_n ?F ?v ?_ ?a ?b (by decide); (case F => k_asm); (case v => exact Eq.refl (some _)); (case a => exact Eq.refl ScopeKind.function); (case b => exact Eq.refl (some NameKind.local)); k_whole)) | ((with_reducible show wpAny _ _ (spliced (backTo _ (starEach (PySem.Expr.Constant (PySem.Const.int _) _ _ :: _) _))) _ _ _); k_dflt (refine' sp_c ?_; k_whole)) | walk1)) | (leave1; walk_say "STEP leave1"; (try dsimp only)) | fail "no step"))
  exact hret _ _ _ (Fr.keep (by assumption)) ⟨_, rfl⟩

theorem bits40 {a : Int} (h0 : 0 ≤ a) (h1 : a < 1099511627776) : ((Builtin.Int.intBits a : Nat) : Int) ≤ 40 := by
  have : Builtin.Int.intBits a ≤ 40 := intBits_le_iff.mpr (by
    show a.natAbs < 1099511627776
    omega)
  omega
theorem d_div2 {w : World} {a b n : Int} {t1 t2 t3 : Tok} {s : Shared} (h0 : 0 ≤ a) (h1 : a < 1099511627776) (h2 : 1 ≤ b) (h22 : b < 1048576) (h3 : 0 ≤ n) : Does w 1 49 [.int a t1, .int b t2, .int n t3] s (fun v h => ∃ D, v = .ref D ∧ s.heap.get? D = none ∧ ∃ t1 t2 c, h.get? D = some (tupO #[.int (a.fdiv b) t1, .int (a.fmod b) t2] c)) := by
  intro p loose mean mg mb dp un gd cn cs fa ccd cl outer A₀ base h₀ L m Q E B F X T hk hd hu hret
  have hb40 := bits40 h0 h1
  refine wpAny_call ?_
  k_dflt ((refine' enterP ?k1 ?k2 ?k3 ?k5 ?kA ?kF ?kK ?k6 ?k7 ?k8 ?k9 ?kB ?_ ?c2 ?c3 ?c4 ?c5; (case kA => exact rfl); (case kF => exact rfl); (case kK => assumption); (case k1 => k_asm); (case k2 => k_asm); (case k3 => k_asm); (case k5 => k_asm); (case k6 => k_is); (case k7 => k_is); (case k8 => ktr_room); (case k9 => exact BindsTo.of_eq rfl); (case c5 => decide); (case kB => exact locs rfl); (case c2 => exact rfl); (case c3 => exact rfl); (case c4 => exact rfl); k_whole; intro Lq_z hq_z Fq_z Nq_z Bq_z Xq_z Tq_z; (try dsimp only); (try k_lift Bq_z); (try k_fold)))
  (repeat' (first | (k_unfold; (try dsimp only)) | (k_end; kc_close) | (first | ((with_reducible show wpAny _ _ (eval (PySem.Expr.Name _ _) _) _ _ _); k_dflt (refine' nameX_L ?F ?v ?_ ?a ?b (by decide); (case F => k_asm); (case v => exact Eq.refl (some _)); (case a => exact Eq.refl ScopeKind.function); (case b => exact Eq.refl (some NameKind.local)); k_whole)) | ((with_reducible show wpAny _ _ (eval (PySem.Expr.BinOp (PySem.Expr.Name _ _) _ (PySem.Expr.Name _ _) _) _) _ _ _); k_dflt (refine' bin_nn ?F ?v ?v2 ?_ ?a ?b ?b2 (by decide) (by decide); (case F => k_asm); (case v => exact Eq.refl (some _)); (case a => exact Eq.refl ScopeKind.function); (case b => exact Eq.refl (some NameKind.local)); (case v2 => exact Eq.refl (some _)); (case b2 => exact Eq.refl (some NameKind.local)); k_whole)) | ((with_reducible show wpAny _ _ (eval (PySem.Expr.BinOp (PySem.Expr.Name _ _) _ _ _) _) _ _ _); k_dflt (refine' bin_n ?F ?v ?_ ?a ?b (by decide); (case F => k_asm); (case v => exact Eq.refl (some _)); (case a => exact Eq.refl ScopeKind.function); (case b => exact Eq.refl (some NameKind.local)); k_whole)) | ((with_reducible show wpAny _ _ (execs (Stmt.Assign [PySem.Expr.Name _ _] _ _ :: _) _) _ _ _); k_dflt (refine' asg ?_; k_whole)) | ((with_reducible show wpAny _ _ (storeName _ _ _) _ _ _); k_dflt (refine' st_tk ?F ?N ?_ ?a ?b; (case F => k_asm); (case N => k_asm); (case a => exact Eq.refl ScopeKind.function); (case b => exact Eq.refl (some NameKind.local)); k_whole); intro h_z tk_z F_z N_z; (try k_sweep)) | ((with_reducible show wpAny _ _ (spliced (backTo _ (starEach (PySem.Expr.Name _ _ :: _) _))) _ _ _); k_dflt (refine' sp_n ?F ?v ?_ ?a ?b (by decide); (case F => k_asm); (case v => exact Eq.refl (some _)); (case a => exact Eq.refl ScopeKind.function); (case b => exact Eq.refl (some NameKind.local)); k_whole)) | ((with_reducible show wpAny _ _ (spliced (backTo _ (starEach (PySem.Expr.Constant (PySem.Const.int _) _ _ :: _) _))) _ _ _); k_dflt (refine' sp_c ?_; k_whole)) | walk1) | (dsimp only; (first | ((with_reducible show wpAny _ _ (eval (PySem.Expr.Name _ _) _) _ _ _); k_dflt (refine' nameX_L ?F ?v ?_ ?a ?b (by decide); (case F => k_asm); (case v => exact Eq.refl (some _)); (case a => exact Eq.refl ScopeKind.function); (case b => exact Eq.refl (some NameKind.local)); k_whole)) | ((with_reducible show wpAny _ _ (eval (PySem.Expr.BinOp (PySem.Expr.Name _ _) _ (PySem.Expr.Name _ _) _) _) _ _ _); k_dflt (refine' bin_nn ?F ?v ?v2 ?_ ?a ?b ?b2 (by decide) (by decide); (case F => k_asm); (case v => exact Eq.refl (some _)); (case a => exact Eq.refl ScopeKind.function); (case b => exact Eq.refl (some NameKind.local)); (case v2 => exact Eq.refl (some _)); (case b2 => exact Eq.refl (some NameKind.local)); k_whole)) | ((with_reducible show wpAny _ _ (eval (PySem.Expr.BinOp (PySem.Expr.Name _ _) _ _ _) _) _ _ _); k_dflt (refine' bin_n ?F ?v ?_ ?a ?b (by decide); (case F => k_asm); (case v => exact Eq.refl (some _)); (case a => exact Eq.refl ScopeKind.function); (case b => exact Eq.refl (some NameKind.local)); k_whole)) | ((with_reducible show wpAny _ _ (execs (Stmt.Assign [PySem.Expr.Name _ _] _ _ :: _) _) _ _ _); k_dflt (refine' asg ?_; k_whole)) | ((with_reducible show wpAny _ _ (storeName _ _ _) _ _ _); k_dflt (refine' st_tk ?F ?N ?_ ?a ?b; (case F => k_asm); (case N => k_asm); (case a => exact Eq.refl ScopeKind.function); (case b => exact Eq.refl (some NameKind.local)); k_whole); intro h_z tk_z F_z N_z; (try k_sweep)) | ((with_reducible show wpAny _ _ (spliced (backTo _ (starEach (PySem.Expr.Name _ _ :: _) _))) _ _ _); k_dflt (refine' sp_n ?F ?v ?_ ?a ?b (by decide); (case F => k_asm); (case v => exact Eq.refl (some _)); (case a => exact Eq.refl ScopeKind.function); (case b => exact Eq.refl (some NameKind.local)); k_whole)) | ((with_reducible show wpAny _ _ (spliced (backTo _ (starEach (PySem.Expr.Constant (PySem.Const.int _) _ _ :: _) _))) _ _ _); k_dflt (refine' sp_c ?_; k_whole)) | walk1)) | (leave1; walk_say "STEP leave1"; (try dsimp only)) | fail "no step"))
  (rename News _ _ _ _ => N9)
  exact hret _ _ _ (Fr.keep (by assumption)) ⟨_, rfl, (N9 _ (List.Mem.head _)).2.2, _, _, _, (N9 _ (List.Mem.head _)).1⟩
end Mine
end

section
open PySem PySem.W PySem.Calls PySem.Spec PyProof.Rows
set_option maxRecDepth 100000
set_option maxHeartbeats 8000000
namespace Mine
noncomputable def q5 : Str := Str.ofString "_digits2int.<locals>.inner"
noncomputable def q8 : Str := Str.ofString "_int2digits.<locals>.inner"
noncomputable def IsCodeO (q : Str) (o : Obj) : Prop := ∃ vs t, o.data = .fields vs ∧ vs[1]? = some (.str q t)
noncomputable def AllNe (d : Nat) : List (Addr × Obj) → Prop
  | [] => True
  | p :: r => @Ne Nat p.1 d ∧ AllNe d r
theorem allNe_of {d : Addr} : ∀ {l : List (Addr × Obj)}, (∀ p ∈ l, p.1 ≠ d) → AllNe d l
  | [], _ => trivial
  | p :: _, h => ⟨h p (.head _), allNe_of fun q hq => h q (.tail _ hq)⟩

/-- the two tables of code and what they hold -/
structure Tabs (t5 t8 : Obj) (c5 c8 : Addr) (o5 o8 : Obj) : Prop where
  c5n : c5 ≠ 58
  c8n : c8 ≠ 65
  k5 : (t5 = tabObj #[] ∧ c5 = 65) ∨ (t5 = tabObj #[rawInt 62, rawInt 4, .ref c5] ∧ c5 ≠ 65 ∧ IsCodeO q5 o5)
  k8 : (t8 = tabObj #[] ∧ c8 = 58) ∨ (t8 = tabObj #[rawInt 47, rawInt 4, .ref c8] ∧ c8 ≠ 58 ∧ IsCodeO q8 o8)
theorem Tabs.start : Tabs (tabObj #[]) (tabObj #[]) 65 58 (tabObj #[]) (tabObj #[]) := ⟨by decide, by decide, .inl ⟨rfl, rfl⟩, .inl ⟨rfl, rfl⟩⟩

noncomputable abbrev tail4 (t5 t8 : Obj) (c5 c8 : Addr) (o5 o8 : Obj) : List (Addr × Obj) := [(65, t5), (58, t8), (c5, o5), (c8, o8)]
/-- where the code stands: as it stood, or new (only where there was none) -/
noncomputable def Since (P : Addr) (h : Heap) (c c' : Addr) : Prop := c' = c ∨ (c = P ∧ h.get? c' = none)
theorem Since.weak {P : Addr} {h : Heap} {c c' : Addr} (S : Since P h c c') : c' = c ∨ h.get? c' = none := S.imp id And.right
/-- what stands of the tables behind a call that began at h -/
noncomputable def TabsOut (h : Heap) (c5 c8 : Addr) (h' : Heap) (t5 t8 : Obj) (c5' c8' : Addr) (o5 o8 : Obj) : Prop :=
  Tabs t5 t8 c5' c8' o5 o8 ∧ h'.get? 65 = some t5 ∧ h'.get? 58 = some t8 ∧ h'.get? c5' = some o5 ∧ h'.get? c8' = some o8 ∧ Since 65 h c5 c5' ∧ Since 58 h c8 c8'

noncomputable def DoesT (w : World) (n : Nat) (f : Addr) (vs : List Value) (s : Shared) (P : Value → Heap → Prop) : Prop :=
  ∀ t5 t8 c5 c8 o5 o8, Tabs t5 t8 c5 c8 o5 o8 → DoesN w n f vs s (tail4 t5 t8 c5 c8 o5 o8) fun v h' => (∃ t5' t8' c5' c8' o5' o8', TabsOut s.heap c5 c8 h' t5' t8' c5' c8' o5' o8') ∧ P v h'

section
variable {w : World} {A₀ : Around} {s : Shared} {L : Addr} {h₀ base h h' : Heap} {m mg mb : Str → Option Value} {p : Program} {loose : List Str} {mean : ExcName → Option Value} {news rest : List (Addr × Obj)}
  {dp un n : Nat} {gd : Option (List Code)} {cn : Str} {cs : Scope} {a f : Addr} {ccd : Value} {cl : List (Str × Addr)} {outer : List Env} {Q E : Value → Shared → Prop} {P : Value → Heap → Prop} {vs : List Value}

theorem fr_kept (F : Fr h₀ L h m) (k : ∀ b o, h.get? b = some o → h'.get? b = some o) : Fr h₀ L h' m := F.grownK k
theorem fr_keptN {foot : List (Addr × Obj)} (F : Fr h₀ L h m) (N : News h₀ L h foot) (k : ∀ b o, b ∉ foot.map (·.1) → h.get? b = some o → h'.get? b = some o) : Fr h₀ L h' m := by
  obtain ⟨oL, es, ep, hL, r⟩ := F.ns
  refine ⟨⟨oL, es, ep, k _ _ (fun q => ?_) hL, r⟩, fun b o e => k b o (fun q => ?_) (F.keep b o e), F.above⟩
  · obtain ⟨x, hx, e⟩ := List.mem_map.mp q
    exact (N x hx).2.1 e
  · obtain ⟨x, hx, e2⟩ := List.mem_map.mp q
    have := (N x hx).2.2
    rw [e2, e] at this; cases this
theorem news_add {D : Addr} {o : Obj} (F : Fr h₀ L h m) (N' : News h₀ L h' news) (hD : h.get? D = none) (ho : h'.get? D = some o) : News h₀ L h' ((D, o) :: news) := by
  obtain ⟨oL, es, ep, hL, r⟩ := F.ns
  intro q hq
  rcases List.mem_cons.mp hq with rfl | hq
  · refine ⟨ho, fun e => ?_, ?_⟩
    · have e' : D = L := e
      rw [e', hL] at hD; cases hD
    · cases x : h₀.get? D with
      | none => rfl
      | some o' => rw [F.keep _ _ x] at hD; cases hD
  · exact N' q hq
theorem news_ne {D : Addr} (N : News h₀ L h news) (hD : h.get? D = none) : ∀ p ∈ news, p.1 ≠ D := fun p hp e => by
  have := (N p hp).1
  rw [e, hD] at this; cases this

/-- a contract at a call: no object comes back -/
theorem use0 (hC : Does w n f vs s P) (B : Below A₀ base outer h₀) (F : Fr h₀ L s.heap m) (X : (hd.heap_1 w.params).In h₀) (T : Top p loose mean mg mb h₀) (hk : cs.kind = .function) (N : News h₀ L s.heap news) (hd : dp + n < recursionLimit) (hu : un + 8 * n < cLine)
    (ret : ∀ v h' tk', Fr h₀ L h' m → News h₀ L h' news → P v h' → Q v { s with heap := h', toks := tk' }) :
    wpAny (model PR w) (ktrTop dp un gd cn cs L a ccd cl outer) (call (.ref f) vs) Q E s :=
  hC _ _ _ _ _ _ _ _ _ _ _ _ _ _ _ _ _ _ _ _ _ B F X T hk hd hu fun v h' tk' k hP => ret v h' tk' (fr_kept F k) (N.grown k) hP
/-- a contract at a call: one new object comes back -/
theorem use1 {P : Addr → Obj → Prop} (hC : Does w n f vs s (fun v h => ∃ D, v = .ref D ∧ s.heap.get? D = none ∧ ∃ o, h.get? D = some o ∧ P D o)) (B : Below A₀ base outer h₀) (F : Fr h₀ L s.heap m) (X : (hd.heap_1 w.params).In h₀) (T : Top p loose mean mg mb h₀) (hk : cs.kind = .function) (N : News h₀ L s.heap news) (hd : dp + n < recursionLimit) (hu : un + 8 * n < cLine)
    (ret : ∀ D o h' tk', Fr h₀ L h' m → News h₀ L h' ((D, o) :: news) → AllNe D news → P D o → Q (.ref D) { s with heap := h', toks := tk' }) :
    wpAny (model PR w) (ktrTop dp un gd cn cs L a ccd cl outer) (call (.ref f) vs) Q E s :=
  hC _ _ _ _ _ _ _ _ _ _ _ _ _ _ _ _ _ _ _ _ _ B F X T hk hd hu fun v h' tk' k ⟨D, hv, hD, o, ho, hP⟩ => by
    subst hv
    exact ret D o h' tk' (fr_kept F k) (news_add F (N.grown k) hD ho) (allNe_of (news_ne N hD)) hP

theorem useT_base {t5 t8 : Obj} {c5 c8 : Addr} {o5 o8 : Obj} (hC : DoesT w n f vs s P) (TB : Tabs t5 t8 c5 c8 o5 o8) (B : Below A₀ base outer h₀) (F : Fr h₀ L s.heap m) (X : (hd.heap_1 w.params).In h₀) (T : Top p loose mean mg mb h₀) (hk : cs.kind = .function)
    (N : News h₀ L s.heap (rest ++ tail4 t5 t8 c5 c8 o5 o8)) (hne : ∀ p ∈ rest, p.1 ≠ 65 ∧ p.1 ≠ 58 ∧ p.1 ≠ c5 ∧ p.1 ≠ c8) (hd : dp + n < recursionLimit) (hu : un + 8 * n < cLine)
    (ret : ∀ v h' tk' t5' t8' c5' c8' o5' o8', Fr h₀ L h' m → News h₀ L h' (rest ++ tail4 t5' t8' c5' c8' o5' o8') → Tabs t5' t8' c5' c8' o5' o8' → (∀ p ∈ rest, p.1 ≠ c5') → (∀ p ∈ rest, p.1 ≠ c8') → Since 65 s.heap c5 c5' → Since 58 s.heap c8 c8' → P v h' → Q v { s with heap := h', toks := tk' }) :
    wpAny (model PR w) (ktrTop dp un gd cn cs L a ccd cl outer) (call (.ref f) vs) Q E s := by
  have N4 : News h₀ L s.heap (tail4 t5 t8 c5 c8 o5 o8) := fun q hq => N q (List.mem_append_right _ hq)
  refine hC t5 t8 c5 c8 o5 o8 TB _ _ _ _ _ _ _ _ _ _ _ _ _ _ _ _ _ _ _ _ _ B F N4 X T hk hd hu ?_
  rintro v h' tk' k ⟨⟨t5', t8', c5', c8', o5', o8', TB', g5, g8, gc5, gc8, S5, S8⟩, hP⟩
  have f5 := S5.weak
  have f8 := S8.weak
  have F' := fr_keptN F N4 k
  have alive : ∀ c : Addr, (c = c5 ∨ s.heap.get? c = none) ∨ (c = c8 ∨ s.heap.get? c = none) → c ≠ L ∧ h₀.get? c = none := by
    intro c hc
    have hc' : (c = c5 ∨ c = c8) ∨ s.heap.get? c = none := by rcases hc with (h | h) | (h | h) <;> simp [h]
    rcases hc' with h | h
    · rcases h with rfl | rfl
      · exact (N4 (c, o5) (by simp [tail4])).2
      · exact (N4 (c, o8) (by simp [tail4])).2
    · refine ⟨fun e => ?_, ?_⟩
      · obtain ⟨oL, es, ep, hL, r⟩ := F.ns
        rw [e, hL] at h; cases h
      · cases x : h₀.get? c with
        | none => rfl
        | some o' => rw [F.keep _ _ x] at h; cases h
  have N' : News h₀ L h' (rest ++ tail4 t5' t8' c5' c8' o5' o8') := by
    intro q hq
    rcases List.mem_append.mp hq with hq | hq
    · have n1 := N q (List.mem_append_left _ hq)
      refine ⟨k _ _ (fun hm => ?_) n1.1, n1.2⟩
      have n2 := hne q hq
      simp only [tail4, List.map_cons, List.map_nil, List.mem_cons, List.not_mem_nil, or_false] at hm
      rcases hm with e | e | e | e
      · exact n2.1 e
      · exact n2.2.1 e
      · exact n2.2.2.1 e
      · exact n2.2.2.2 e
    · simp only [tail4, List.mem_cons, List.not_mem_nil, or_false] at hq
      rcases hq with rfl | rfl | rfl | rfl
      · exact ⟨g5, (N4 (65, t5) (by simp [tail4])).2⟩
      · exact ⟨g8, (N4 (58, t8) (by simp [tail4])).2⟩
      · exact ⟨gc5, alive _ (.inl f5)⟩
      · exact ⟨gc8, alive _ (.inr f8)⟩
  have nec : ∀ (c c₀ : Addr), (c = c₀ ∨ s.heap.get? c = none) → (∀ p ∈ rest, p.1 ≠ c₀) → ∀ p ∈ rest, p.1 ≠ c := by
    intro c c₀ hc h0 q hq e
    rcases hc with rfl | hc
    · exact h0 q hq e
    · have := (N q (List.mem_append_left _ hq)).1
      rw [e, hc] at this; cases this
  exact ret v h' tk' t5' t8' c5' c8' o5' o8' F' N' TB' (nec _ _ f5 fun q hq => (hne q hq).2.2.1) (nec _ _ f8 fun q hq => (hne q hq).2.2.2) S5 S8 hP

/-- a contract with tables at a call: one new object comes back -/
theorem useT1 {P : Addr → Obj → Prop} {t5 t8 : Obj} {c5 c8 : Addr} {o5 o8 : Obj} (hC : DoesT w n f vs s (fun v h => ∃ D, v = .ref D ∧ s.heap.get? D = none ∧ ∃ o, h.get? D = some o ∧ (∃ its c, o.data = .seq its c) ∧ P D o)) (TB : Tabs t5 t8 c5 c8 o5 o8) (B : Below A₀ base outer h₀) (F : Fr h₀ L s.heap m) (X : (hd.heap_1 w.params).In h₀) (T : Top p loose mean mg mb h₀) (hk : cs.kind = .function)
    (N : News h₀ L s.heap (rest ++ tail4 t5 t8 c5 c8 o5 o8)) (hne : ∀ p ∈ rest, p.1 ≠ 65 ∧ p.1 ≠ 58 ∧ p.1 ≠ c5 ∧ p.1 ≠ c8) (hd : dp + n < recursionLimit) (hu : un + 8 * n < cLine)
    (ret : ∀ D o h' tk' t5' t8' c5' c8' o5' o8', Fr h₀ L h' m → News h₀ L h' ((D, o) :: (rest ++ tail4 t5' t8' c5' c8' o5' o8')) → Tabs t5' t8' c5' c8' o5' o8' → AllNe c5' rest → AllNe c8' rest → AllNe D (rest ++ tail4 t5' t8' c5' c8' o5' o8') → Since 65 s.heap c5 c5' → Since 58 s.heap c8 c8' → P D o → Q (.ref D) { s with heap := h', toks := tk' }) :
    wpAny (model PR w) (ktrTop dp un gd cn cs L a ccd cl outer) (call (.ref f) vs) Q E s := by
  refine useT_base hC TB B F X T hk N hne hd hu ?_
  rintro v h' tk' t5' t8' c5' c8' o5' o8' F' N' TB' n5 n8 S5 S8 ⟨D, hv, hD, o, ho, ⟨its, c, hs⟩, hP⟩
  subst hv
  refine ret D o h' tk' t5' t8' c5' c8' o5' o8' F' (news_add F N' hD ho) TB' (allNe_of n5) (allNe_of n8) (allNe_of fun q hq e => ?_) S5 S8 hP
  have e1 := (N' q hq).1
  rw [e, ho] at e1
  rcases List.mem_append.mp hq with hq | hq
  · have := (N q (List.mem_append_left _ hq)).1
    rw [e, hD] at this; cases this
  · have h65 := (N (65, t5) (List.mem_append_right _ (by simp [tail4]))).1
    have h58 := (N (58, t8) (List.mem_append_right _ (by simp [tail4]))).1
    have eo : o = q.2 := Option.some.inj e1
    simp only [tail4, List.mem_cons, List.not_mem_nil, or_false] at hq
    rcases hq with rfl | rfl | rfl | rfl
    · have e' : (65 : Addr) = D := e
      rw [← e', h65] at hD; cases hD
    · have e' : (58 : Addr) = D := e
      rw [← e', h58] at hD; cases hD
    · rcases TB'.k5 with ⟨_, rfl⟩ | ⟨_, _, vs, t, hd', _⟩
      · have e' : (65 : Addr) = D := e
        rw [← e', h65] at hD; cases hD
      · have e3 : o = o5' := eo
        rw [← e3, hs] at hd'; cases hd'
    · rcases TB'.k8 with ⟨_, rfl⟩ | ⟨_, _, vs, t, hd', _⟩
      · have e' : (58 : Addr) = D := e
        rw [← e', h58] at hD; cases hD
      · have e3 : o = o8' := eo
        rw [← e3, hs] at hd'; cases hd'
/-- Since, from a frame's entry on -/
theorem since_step {he g : Heap} {L : Addr} {m : Str → Option Value} {h : Heap} {c5e c8e c5 c8 c5' c8' : Addr} {t5 t8 o5 o8 : Obj} {news : List (Addr × Obj)}
    (hg : g = hideAll he [65, 58, c5e, c8e]) (F : Fr g L h m) (N : News g L h news) (m5 : (65, t5) ∈ news) (m8 : (58, t8) ∈ news) (mc5 : (c5, o5) ∈ news) (mc8 : (c8, o8) ∈ news)
    (E5 : Since 65 he c5e c5) (E8 : Since 58 he c8e c8) (S5 : Since 65 h c5 c5') (S8 : Since 58 h c8 c8') : Since 65 he c5e c5' ∧ Since 58 he c8e c8' := by
  have alive : ∀ c : Addr, h.get? c = none → he.get? c = none := fun c hc => by
    cases e : he.get? c with
    | none => rfl
    | some o =>
      exfalso
      have no : ∀ (d : Addr) (o' : Obj), (d, o') ∈ news → c ≠ d := fun d o' hm q => by
        have e1 := N.get hm
        rw [← q, hc] at e1; cases e1
      have h5 : c ≠ c5e := by
        rcases E5 with q | ⟨q, _⟩
        · rw [← q]; exact no _ _ mc5
        · rw [q]; exact no _ _ m5
      have h8 : c ≠ c8e := by
        rcases E8 with q | ⟨q, _⟩
        · rw [← q]; exact no _ _ mc8
        · rw [q]; exact no _ _ m8
      have := F.keep c o (by rw [hg]; exact hideAll_get _ e (by simp [no _ _ m5, no _ _ m8, h5, h8]))
      rw [hc] at this; cases this
  refine ⟨?_, ?_⟩
  · rcases S5 with q | ⟨q, hn⟩
    · rw [q]; exact E5
    · refine .inr ⟨?_, alive _ hn⟩
      rcases E5 with q' | ⟨q', _⟩
      · rw [← q', q]
      · exact q'
  · rcases S8 with q | ⟨q, hn⟩
    · rw [q]; exact E8
    · refine .inr ⟨?_, alive _ hn⟩
      rcases E8 with q' | ⟨q', _⟩
      · rw [← q', q]
      · exact q'
theorem off_since {he : Heap} {c5e c8e c5 c8 D : Addr} {t5 t8 o5 o8 : Obj} (_TB : Tabs t5 t8 c5 c8 o5 o8) (E5 : Since 65 he c5e c5) (E8 : Since 58 he c8e c8) (h65 : @Ne Nat D 65) (h58 : @Ne Nat D 58) (h5 : @Ne Nat D c5) (h8 : @Ne Nat D c8) : D ∉ [65, 58, c5e, c8e] := by
  have n5 : @Ne Nat D c5e := by
    rcases E5 with q | ⟨q, _⟩
    · rw [← q]; exact h5
    · rw [q]; exact h65
  have n8 : @Ne Nat D c8e := by
    rcases E8 with q | ⟨q, _⟩
    · rw [← q]; exact h8
    · rw [q]; exact h58
  intro hm
  simp only [List.mem_cons, List.not_mem_nil, or_false] at hm
  rcases hm with e | e | e | e
  · exact h65 e
  · exact h58 e
  · exact n5 e
  · exact n8 e
theorem tabs_since {g h' : Heap} {he : Heap} {L c5e c8e c5 c8 : Addr} {t5 t8 o5 o8 : Obj} {news : List (Addr × Obj)} (TB : Tabs t5 t8 c5 c8 o5 o8) (N : News g L h' news) (m5 : (65, t5) ∈ news) (m8 : (58, t8) ∈ news) (mc5 : (c5, o5) ∈ news) (mc8 : (c8, o8) ∈ news) (E5 : Since 65 he c5e c5) (E8 : Since 58 he c8e c8) :
    ∃ t5' t8' c5' c8' o5' o8', TabsOut he c5e c8e h' t5' t8' c5' c8' o5' o8' := ⟨t5, t8, c5, c8, o5, o8, TB, N.get m5, N.get m8, N.get mc5, N.get mc8, E5, E8⟩
end
end Mine
end

section
open PySem PySem.W PySem.Calls PySem.Spec PyProof.Rows
set_option maxRecDepth 100000
set_option maxHeartbeats 8000000
namespace Mine
theorem Does.mono {w : World} {n : Nat} {f : Addr} {vs : List Value} {s : Shared} {P P' : Value → Heap → Prop} (h : Does w n f vs s P) (k : ∀ v h, P v h → P' v h) : Does w n f vs s P' :=
  fun _ _ _ _ _ _ _ _ _ _ _ _ _ _ _ _ _ _ _ _ _ B F X T hk hd hu hret => h _ _ _ _ _ _ _ _ _ _ _ _ _ _ _ _ _ _ _ _ _ B F X T hk hd hu fun v h' tk' kp hP => hret v h' tk' kp (k v h' hP)
theorem DoesT.mono {w : World} {n : Nat} {f : Addr} {vs : List Value} {s : Shared} {P P' : Value → Heap → Prop} (h : DoesT w n f vs s P) (k : ∀ v h, P v h → P' v h) : DoesT w n f vs s P' :=
  fun t5 t8 c5 c8 o5 o8 TB => fun _ _ _ _ _ _ _ _ _ _ _ _ _ _ _ _ _ _ _ _ _ B F N X T hk hd hu hret => h t5 t8 c5 c8 o5 o8 TB _ _ _ _ _ _ _ _ _ _ _ _ _ _ _ _ _ _ _ _ _ B F N X T hk hd hu fun v h' tk' kp hP => hret v h' tk' kp ⟨hP.1, k v h' hP.2⟩
theorem fold_rep (v : Value) : ∀ (k : Nat) (a : Array Value), List.foldl (fun x1 x2 => x1 ++ x2) a (List.replicate k #[v]) = a ++ Array.replicate k v
  | 0, a => by simp
  | k + 1, a => by
    rw [List.replicate_succ, List.foldl_cons, fold_rep v k]
    apply Array.ext'
    simp [List.replicate_succ]
section
variable {prog : Program} {w : World} {A : Around} {E : Value → Shared → Prop} {s : Shared} {h₀ : Heap} {L : Addr} {m : Str → Option Value} {news : List (Addr × Obj)} {Q : Value → Shared → Prop}
theorem mul_rep {l : Addr} {v : Value} {c : Nat} {x : Int} {u : Tok} (F : Fr h₀ L s.heap m) (N : News h₀ L s.heap news) (hm : (l, W.listOf #[v] c) ∈ news) (hlo : -1000 ≤ x) (hhi : x ≤ 1000000)
    (h : ∀ l' h', Fr h₀ L h' m → News h₀ L h' ((l', W.listOf (Array.replicate x.toNat v) 0) :: news) → (∀ p ∈ news, p.1 < l') → Q (.ref l') { s with heap := h' }) :
    wpAny (model prog w) A (binaryOp .Mult (.ref l) (.int x u)) Q E s := by
  refine mul_list F N (N _ hm).1 (by omega) (by omega) (by simp only [List.size_toArray, List.length_cons, List.length_nil]; omega) fun h' F' N' => ?_
  rw [if_neg (by simp), fold_rep, Array.empty_append] at N'
  exact h _ h' F' N' fun p hp => Heap.lt_size (N p hp).1
theorem shr_to {a n y : Int} {t u : Tok} (hn : 0 ≤ n) (hy : a.fdiv (2 ^ n.toNat) = y) (h : ∀ t tk, Q (.int y t) { s with toks := tk }) : wpAny (model prog w) A (binaryOp .RShift (.int a t) (.int n u)) Q E s := by
  subst hy; exact rshift_int hn (h _ _)
theorem shl_to {a n y : Int} {t u : Tok} (hn : 0 ≤ n) (hn2 : n ≤ 1000000) (ha : a.natAbs < 2 ^ 64) (hy : a * 2 ^ n.toNat = y) (h : ∀ t tk, Q (.int y t) { s with toks := tk }) : wpAny (model prog w) A (binaryOp .LShift (.int a t) (.int n u)) Q E s := by
  subst hy; exact lshift_int_small hn hn2 ha (h _ _)
theorem mul_to {a b y : Int} {t u : Tok} (hm : IntMulOk a b) (hy : a * b = y) (h : ∀ t tk, Q (.int y t) { s with toks := tk }) : wpAny (model prog w) A (binaryOp .Mult (.int a t) (.int b u)) Q E s := by
  subst hy; exact PyProof.Rows.mul_int (h _ _) hm
theorem xor_to {a b y : Int} {t u : Tok} (hy : Builtin.bitXor a b = y) (h : ∀ t tk, Q (.int y t) { s with toks := tk }) : wpAny (model prog w) A (binaryOp .BitXor (.int a t) (.int b u)) Q E s := by
  subst hy; exact PyProof.Rows.xor_int (h _ _)
theorem ki_setL_ok : ∀ {l : List Value} {k : Nat} {v : Value}, k < l.length → ki_setL l k v = some (l.set k v)
  | [], _, _, h => by cases h
  | x :: r, 0, v, _ => rfl
  | x :: r, k + 1, v, h => by
    unfold ki_setL
    rw [ki_setL_ok (by simpa using h)]
    rfl
theorem set_led {D : Addr} {its : Array Value} {n : Nat} {news' : List (Addr × Obj)} {k : Int} {t : Tok} {v : Value} {Q : Unit → Shared → Prop} (F : Fr h₀ L s.heap m) (N : News h₀ L s.heap news) (h0 : 0 ≤ k) (hk : k < its.size) (hz : its.size ≤ 1000000) (U : Upd D (W.listOf its n) (W.listOf (its.toList.set k.toNat v).toArray n) news news')
    (h : ∀ h', Fr h₀ L h' m → News h₀ L h' news' → Q () { s with heap := h' }) : wpAny (model prog w) A (setItem (.ref D) (.int k t) v) Q E s :=
  ki_set F N h0 (by omega) (ki_setL_ok (by simp; omega)) U h
theorem len_led {l : Addr} {its : Array Value} {c n : Nat} (N : News h₀ L s.heap news) (hm : (l, W.listOf its c) ∈ news) (hs : its.size = n) (hn : n ≤ 1000000)
    (h : ∀ t tk, Q (.int n t) { s with toks := tk }) : wpAny (model prog w) A (call (.builtin "len") [.ref l]) Q E s := by
  subst hs
  exact len_list (News.isList N hm) (by omega) (h _ _)
theorem nameX_base {cn : Str} {cs : Scope} {a c : Addr} {ccd : Value} {cl : List (Str × Addr)} {x : Str} {pos : Pos} {v : Value} {o : Obj} {M : Model} (F : Fr h₀ L s.heap m) (hc : cl.lookup x = some c) (ho : h₀.get? c = some o) (hd : o.data = .cell (some v)) (h : Q v s)
    (hk : cs.kind = .function := by rfl) (hx : (envX cn cs L a ccd cl).kindOf x = some .free := by rfl) (hb : (x == ("__debug__" : Str)) = false := by decide) (hn : (x == ("__classdict__" : Str)) = false := by decide) :
    wpAny M A (eval (.Name x pos) (envX cn cs L a ccd cl)) Q E s := wpAny_Name (wpAny_loadName_free hk hx hc ⟨o, F.keep _ _ ho, hd⟩ h hn) hb
end
end Mine
end

section
open PySem PySem.W PySem.Calls PySem.Spec PyProof.Rows
set_option maxRecDepth 100000
set_option maxHeartbeats 8000000
namespace Mine
/-- digit j of k digits of n bits each; the last one takes all that is left -/
noncomputable def digN (X n j k : Nat) : Nat := if j + 1 = k then X / 2 ^ (n * j) else X / 2 ^ (n * j) % 2 ^ n
noncomputable def dig (x n : Int) (j k : Nat) : Int := (digN x.toNat n.toNat j k : Nat)
noncomputable def IntoDigits (its its' : Array Value) (x n l r : Int) : Prop :=
  its'.size = its.size ∧ (∀ i : Nat, l ≤ i → (i : Int) < r → ∃ t, its'[i]? = some (.int (dig x n (i - l.toNat) (r - l).toNat) t)) ∧ ∀ i : Nat, ((i : Int) < l ∨ r ≤ i) → its'[i]? = its[i]?
noncomputable def KeyAt (w : World) (f : Addr) (fo : Obj) (ca ci cn D : Addr) (n : Int) (c' : Addr) (qual : Str) (k : Nat) : Prop :=
  ∀ (s : Shared) (x l r : Int) (tx tl tr : Tok) (its : Array Value) (cc : Nat), 0 ≤ x → x < 1099511627776 → 0 ≤ l → l < r → r ≤ its.size → its.size ≤ 40 → (r - l).toNat = k →
    s.heap.get? f = some fo → s.heap.CodeRec (.ref c') qual → s.heap.IsCell ca (some (.ref D)) → s.heap.IsCell ci (some (.ref f)) → (∃ tn, s.heap.IsCell cn (some (.int n tn))) →
    DoesN w (k + 1) f [.int x tx, .int l tl, .int r tr] s [(D, W.listOf its cc)] (fun v h => v = .none ∧ ∃ its' cc', h.get? D = some (W.listOf its' cc') ∧ IntoDigits its its' x n l r)
section
variable {w : World} {A₀ : Around} {s : Shared} {L : Addr} {h₀ base : Heap} {m mg mb : Str → Option Value} {p : Program} {loose : List Str} {mean : ExcName → Option Value} {news : List (Addr × Obj)}
  {dp un k : Nat} {gd : Option (List Code)} {cn : Str} {cs : Scope} {a f : Addr} {ccd : Value} {cl : List (Str × Addr)} {outer : List Env} {Q E : Value → Shared → Prop}
theorem use_inner {name qual : Str} {params : Arguments} {body : List Stmt} {scope : Scope} {clos : List (Str × Addr)} {doc pm ctv : Value} {ca ci cnn D c' : Addr} {n x l r : Int} {tx tl tr : Tok} {its : Array Value} {cc : Nat} {g : Obj → List (Addr × Obj)} (key : KeyAt w f (fnMade name qual params body scope clos doc pm c' ctv) ca ci cnn D n c' qual k)
    (B : Below A₀ base outer h₀) (F : Fr h₀ L s.heap m) (X : (hd.heap_1 w.params).In h₀) (T : Top p loose mean mg mb h₀) (hk : cs.kind = .function)
    (N : News h₀ L s.heap news) (U : UpdF D (W.listOf its cc) news g)
    (hf : s.heap.get? f = some (fnMade name qual params body scope clos doc pm c' ctv)) (hcode : s.heap.CodeRec (.ref c') qual) (hca : s.heap.IsCell ca (some (.ref D))) (hci : s.heap.IsCell ci (some (.ref f))) (hcn : ∃ tn, s.heap.IsCell cnn (some (.int n tn)))
    (h1 : 0 ≤ x ∧ x < 1099511627776) (h2 : 0 ≤ l ∧ l < r ∧ r ≤ its.size ∧ its.size ≤ 40) (h3 : (r - l).toNat = k)
    (hd : dp + (k + 1) < recursionLimit) (hu : un + 8 * (k + 1) < cLine)
    (ret : ∀ h' tk' its' cc', Fr h₀ L h' m → News h₀ L h' (g (W.listOf its' cc')) → IntoDigits its its' x n l r → Q .none { s with heap := h', toks := tk' }) :
    wpAny (model PR w) (ktrTop dp un gd cn cs L a ccd cl outer) (call (.ref f) [.int x tx, .int l tl, .int r tr]) Q E s := by
  obtain ⟨own, rest, rfl, hg, e1, e2⟩ := U.split
  have N1 : News h₀ L s.heap [(D, W.listOf its cc)] := fun q hq => N q (by rw [List.mem_singleton.mp hq]; simp)
  refine key s x l r tx tl tr its cc h1.1 h1.2 h2.1 h2.2.1 h2.2.2.1 h2.2.2.2 h3 hf hcode hca hci hcn _ _ _ _ _ _ _ _ _ _ _ _ _ _ _ _ _ _ _ _ _ B F N1 X T hk hd hu ?_
  rintro v h' tk' kp ⟨rfl, its', cc', ho, hI⟩
  refine ret h' tk' its' cc' (fr_keptN F N1 kp) ?_ hI
  rw [hg]
  intro q hq
  rcases List.mem_append.mp hq with hq | hq
  · have := N q (List.mem_append_left _ hq)
    exact ⟨kp _ _ (fun z => e1 q hq (List.mem_singleton.mp z)) this.1, this.2⟩
  · rcases List.mem_cons.mp hq with rfl | hq
    · exact ⟨ho, (N1 _ (.head _)).2⟩
    · have := N q (List.mem_append_right _ (.tail _ hq))
      exact ⟨kp _ _ (fun z => e2 q hq (List.mem_singleton.mp z)) this.1, this.2⟩
theorem use_ih {k₀ : Nat} {name qual : Str} {params : Arguments} {body : List Stmt} {scope : Scope} {clos : List (Str × Addr)} {doc pm ctv : Value} {ca ci cnn D c' : Addr} {n x l r : Int} {tx tl tr : Tok} {its : Array Value} {cc : Nat} {g : Obj → List (Addr × Obj)} (ih : ∀ j, j < k₀ → KeyAt w f (fnMade name qual params body scope clos doc pm c' ctv) ca ci cnn D n c' qual j)
    (B : Below A₀ base outer h₀) (F : Fr h₀ L s.heap m) (X : (hd.heap_1 w.params).In h₀) (T : Top p loose mean mg mb h₀) (hk : cs.kind = .function)
    (N : News h₀ L s.heap news) (U : UpdF D (W.listOf its cc) news g)
    (hf : h₀.get? f = some (fnMade name qual params body scope clos doc pm c' ctv)) (hcode : h₀.CodeRec (.ref c') qual) (hca : h₀.IsCell ca (some (.ref D))) (hci : h₀.IsCell ci (some (.ref f))) (hcn : ∃ tn, h₀.IsCell cnn (some (.int n tn)))
    (h1 : 0 ≤ x ∧ x < 1099511627776) (h2 : 0 ≤ l ∧ l < r ∧ r ≤ its.size ∧ its.size ≤ 40) (h3 : (r - l).toNat < k₀)
    (hd : dp + k₀ < recursionLimit) (hu : un + 8 * k₀ < cLine)
    (ret : ∀ h' tk' its' cc', Fr h₀ L h' m → News h₀ L h' (g (W.listOf its' cc')) → IntoDigits its its' x n l r → Q .none { s with heap := h', toks := tk' }) :
    wpAny (model PR w) (ktrTop dp un gd cn cs L a ccd cl outer) (call (.ref f) [.int x tx, .int l tl, .int r tr]) Q E s :=
  use_inner (ih _ h3) B F X T hk N U (F.keep _ _ hf) (hcode.keeps F.keep) (let ⟨o, a, b⟩ := hca; ⟨o, F.keep _ _ a, b⟩) (let ⟨o, a, b⟩ := hci; ⟨o, F.keep _ _ a, b⟩) (let ⟨t, o, a, b⟩ := hcn; ⟨t, o, F.keep _ _ a, b⟩) h1 h2 rfl (by omega) (by omega) ret
end
end Mine
end

section
open PySem PySem.W PySem.Calls PySem.Spec PyProof.Rows
namespace Mine
theorem land_shift (x s : Nat) : x &&& ((x / 2 ^ s) * 2 ^ s) = (x / 2 ^ s) * 2 ^ s := by
  rw [← Nat.shiftRight_eq_div_pow, ← Nat.shiftLeft_eq]
  apply Nat.eq_of_testBit_eq
  intro i
  simp only [Nat.testBit_and, Nat.testBit_shiftLeft, Nat.testBit_shiftRight]
  by_cases h : i ≥ s
  · have e : s + (i - s) = i := by omega
    simp [h, e]
  · simp [h]
theorem xor_low {x : Int} {s : Nat} (hx : 0 ≤ x) : Builtin.bitXor x (x / 2 ^ s * 2 ^ s) = x % 2 ^ s := by
  obtain ⟨X, rfl⟩ := Int.eq_ofNat_of_zero_le hx
  have e : ((X : Int) / 2 ^ s * 2 ^ s) = ((X / 2 ^ s * 2 ^ s : Nat) : Int) := by
    push_cast; rfl
  rw [e, bitXor_and, bitAnd_pp (by omega) (by omega)]
  simp only [Int.toNat_natCast]
  rw [land_shift]
  have := Nat.div_add_mod' X (2 ^ s)
  have e2 : ((X : Int) % 2 ^ s) = ((X % 2 ^ s : Nat) : Int) := by push_cast; rfl
  rw [e2]
  omega
theorem pow_cast (s : Nat) : (2 : Int) ^ s = ((2 ^ s : Nat) : Int) := by push_cast; rfl
theorem pow_pos2 (s : Nat) : 0 < 2 ^ s := Nat.pos_of_ne_zero (by simp)
theorem fdiv_pow {x : Int} {s : Nat} : x.fdiv (2 ^ s) = x / 2 ^ s := Int.fdiv_eq_ediv_of_nonneg _ (by rw [pow_cast]; exact Int.natCast_nonneg _)
theorem mod_div_pow (X n j k : Nat) (h : j ≤ k) : X % 2 ^ (n * k) / 2 ^ (n * j) = X / 2 ^ (n * j) % 2 ^ (n * (k - j)) := by
  have e : 2 ^ (n * k) = 2 ^ (n * j) * 2 ^ (n * (k - j)) := by rw [← Nat.pow_add, ← Nat.mul_add]; congr 2; omega
  rw [e, Nat.mod_mul_right_div_self]
theorem div_div_pow (X a b : Nat) : X / 2 ^ a / 2 ^ b = X / 2 ^ (a + b) := by rw [Nat.div_div_eq_div_mul, Nat.pow_add]
theorem digN_low (X n j k1 k : Nat) (hj : j < k1) (hk : k1 < k) : digN (X % 2 ^ (n * k1)) n j k1 = digN X n j k := by
  unfold digN
  rw [if_neg (by omega : ¬ j + 1 = k)]
  rw [mod_div_pow X n j k1 (by omega)]
  by_cases h : j + 1 = k1
  · rw [if_pos h]
    have : k1 - j = 1 := by omega
    rw [this, Nat.mul_one]
  · rw [if_neg h]
    have e : 2 ^ (n * (k1 - j)) = 2 ^ n * 2 ^ (n * (k1 - j - 1)) := by
      rw [← Nat.pow_add]; congr 1
      have : k1 - j = (k1 - j - 1) + 1 := by omega
      rw [this, Nat.mul_add]; simp; omega
    rw [e, Nat.mod_mul_right_mod]
theorem digN_high (X n j k1 k : Nat) (hk : k1 + j < k) : digN (X / 2 ^ (n * k1)) n j (k - k1) = digN X n (k1 + j) k := by
  unfold digN
  rw [div_div_pow, ← Nat.mul_add]
  by_cases h : j + 1 = k - k1
  · rw [if_pos h, if_pos (by omega)]
  · rw [if_neg h, if_neg (by omega)]
theorem into_leaf {its : Array Value} {x n l r : Int} {t : Tok} (hl : 0 ≤ l) (hr : r = l + 1) (hs : r ≤ its.size) (hx : 0 ≤ x) : IntoDigits its (its.toList.set l.toNat (.int x t)).toArray x n l r := by
  refine ⟨by simp, fun i h1 h2 => ⟨t, ?_⟩, fun i h => ?_⟩
  · have e : i = l.toNat := by omega
    subst e
    have hlt : l.toNat < its.size := by omega
    have e2 : (r - l).toNat = 1 := by omega
    have e3 : dig x n (l.toNat - l.toNat) (r - l).toNat = x := by
      rw [e2, Nat.sub_self]
      simp only [dig, digN, Nat.mul_zero, Nat.pow_zero, Nat.div_one]
      simp; omega
    rw [e3]
    simp [hlt]
  · have : l.toNat ≠ i := by omega
    simp [List.getElem?_set_ne this]
theorem nd0 {l mid : Int} (h : l < mid) : mid = l + ((mid - l).toNat : Nat) := by omega
theorem nd1 {l : Int} {k : Nat} : (l + (k : Int) - l).toNat = k := by omega
theorem nd2 {l : Int} {i k : Nat} (hl : 0 ≤ l) (h : l ≤ i) (hm : (i : Int) < l + k) : i - l.toNat < k := by omega
theorem nd3 {l r : Int} {k : Nat} (h : l + k < r) : k < (r - l).toNat := by omega
theorem nd4 {l r : Int} {k : Nat} : (r - (l + (k : Int))).toNat = (r - l).toNat - k := by omega
theorem nd5 {l : Int} {i k : Nat} (hl : 0 ≤ l) : i - (l + (k : Int)).toNat = i - l.toNat - k := by omega
theorem nd6 {l r : Int} {i k : Nat} (hl : 0 ≤ l) (hm : l + k ≤ i) (h : (i : Int) < r) : k + (i - l.toNat - k) < (r - l).toNat := by omega
theorem nd7 {l : Int} {i k : Nat} (hl : 0 ≤ l) (hm : l + k ≤ i) : k + (i - l.toNat - k) = i - l.toNat := by omega
theorem nd8 {l r : Int} {i k : Nat} (h : (i : Int) < l ∨ r ≤ i) : (i : Int) < l + k ∨ r ≤ i := h.imp_left fun h => by omega
theorem into_node {its its1 its2 : Array Value} {x n l r mid sh up lo : Int} (hl : 0 ≤ l) (h1 : l < mid) (h2 : mid < r) (hn : 0 ≤ n) (hx : 0 ≤ x) (hsh : (mid - l) * n = sh) (hup : x / 2 ^ sh.toNat = up) (hlo : x % 2 ^ sh.toNat = lo)
    (A : IntoDigits its its1 lo n l mid) (B : IntoDigits its1 its2 up n mid r) : IntoDigits its its2 x n l r := by
  obtain ⟨a1, a2, a3⟩ := A
  obtain ⟨b1, b2, b3⟩ := B
  obtain ⟨X, rfl⟩ := Int.eq_ofNat_of_zero_le hx
  obtain ⟨N, rfl⟩ := Int.eq_ofNat_of_zero_le hn
  have hk : ∃ k1 : Nat, mid = l + k1 := ⟨(mid - l).toNat, nd0 h1⟩
  obtain ⟨k1, rfl⟩ := hk
  have hs : sh.toNat = N * k1 := by
    rw [← hsh]
    have : (l + (k1 : Int) - l) * (N : Int) = ((N * k1 : Nat) : Int) := by push_cast; rw [Int.add_comm, Int.add_sub_cancel, Int.mul_comm]
    rw [this]; exact Int.toNat_natCast _
  rw [hs] at hup hlo
  have hup' : up = ((X / 2 ^ (N * k1) : Nat) : Int) := by rw [← hup]; push_cast; rfl
  have hlo' : lo = ((X % 2 ^ (N * k1) : Nat) : Int) := by rw [← hlo]; push_cast; rfl
  subst hup' hlo'
  refine ⟨by rw [b1, a1], fun i hi1 hi2 => ?_, fun i hi => ?_⟩
  · by_cases hm : (i : Int) < l + k1
    · obtain ⟨t, ht⟩ := a2 i hi1 hm
      refine ⟨t, ?_⟩
      rw [b3 i (.inl hm), ht]
      congr 2
      simp only [dig, Int.toNat_natCast]
      have e1 := nd1 (l := l) (k := k1)
      rw [e1, digN_low X N (i - l.toNat) k1 (r - l).toNat (nd2 hl hi1 hm) (nd3 h2)]
    · obtain ⟨t, ht⟩ := b2 i (Int.not_lt.mp hm) hi2
      refine ⟨t, ?_⟩
      rw [ht]
      congr 2
      simp only [dig, Int.toNat_natCast]
      have e1 := nd4 (l := l) (r := r) (k := k1)
      have e2 := nd5 (i := i) (k := k1) hl
      rw [e1, e2, digN_high X N (i - l.toNat - k1) k1 (r - l).toNat (nd6 hl (Int.not_lt.mp hm) hi2), nd7 hl (Int.not_lt.mp hm)]
  · rw [b3 i (nd8 hi), a3 i (hi.imp_right (Int.le_trans (Int.le_of_lt h2)))]
end Mine
end

theorem Mine.fresh12 : True := by
  w_top off
  trivial
section
open PySem PySem.W PySem.Calls PySem.Spec PyProof.Rows
set_option maxRecDepth 100000
set_option maxHeartbeats 8000000
namespace Mine

theorem fnAt_base {h₀ h : Heap} {L q : Addr} {m : Str → Option Value} {name qual : Str} {params : Arguments} {body : List Stmt} {scope : Scope} {clos : List (Str × Addr)} {doc pm : Value} {c' : Addr} {ctv : Value}
    (F : Fr h₀ L h m) (ho : h₀.get? q = some (fnMade name qual params body scope clos doc pm c' ctv)) : FnAt q h := ⟨_, _, _, _, F.keep _ _ ho⟩
theorem not_foot {h₀ h : Heap} {L D b : Addr} {its : Array Value} {cc : Nat} {o : Obj} (N : News h₀ L h [(D, W.listOf its cc)]) (e : h.get? b = some o) (ho : ∀ its c, o.data ≠ .seq its c) : b ∉ List.map (fun x => x.1) [(D, W.listOf its cc)] := fun hm => by
  have e1 := News.get N (List.Mem.head _)
  have e2 : b = D := List.mem_singleton.mp hm
  rw [← e2, e] at e1
  exact ho its cc (by rw [Option.some.inj e1])
theorem qual8 {sc : Scope} {L a : Addr} {cd : Value} (h : ((envOfC (Str.ofString "_int2digits") sc L a cd).kindOf (Str.ofString "inner") == some .globalExplicit) = false) : qualnameIn (envOfC (Str.ofString "_int2digits") sc L a cd) (Str.ofString "inner") (Str.ofString "inner") = q8 := by
  unfold qualnameIn
  rw [h]
  show (Str.ofString "_int2digits" ++ ".<locals>." ++ Str.ofString "inner" : Str) = q8
  unfold q8
  decide +kernel
theorem fresh_of {g h h' : Heap} {L D : Addr} {o : Obj} {news : List (Addr × Obj)} {l : List Addr} (N : News g L h' news) (hm : (D, o) ∈ news) (hg : g = hideAll h l) (hn : D ∉ l) : h.get? D = none := by
  cases e : h.get? D with
  | none => rfl
  | some x =>
    have := (N _ hm).2.2
    rw [hg, hideAll_get _ e hn] at this; cases this
theorem tabs_cold8 {g h h' : Heap} {L c5 c8 c' : Addr} {t5 o5 o8 oc : Obj} {news : List (Addr × Obj)} {l : List Addr} (TB : Tabs t5 (tabObj #[]) c5 c8 o5 o8) (N : News g L h' news) (hg : g = hideAll h l) (m5 : (65, t5) ∈ news) (m8 : (58, tabObj #[rawInt 47, rawInt 4, .ref c']) ∈ news) (mc5 : (c5, o5) ∈ news) (mc8 : (c', oc) ∈ news)
    (hc8 : c8 = 58) (hne : c' ∉ l) (n65 : c' ≠ 65) (n58 : c' ≠ 58) (code : IsCodeO q8 oc) : ∃ t5' t8' c5' c8' o5' o8', TabsOut h c5 c8 h' t5' t8' c5' c8' o5' o8' :=
  ⟨t5, _, c5, c', o5, oc, ⟨TB.c5n, n65, TB.k5, .inr ⟨rfl, n58, code⟩⟩, N.get m5, N.get m8, N.get mc5, N.get mc8, .inl rfl, .inr ⟨hc8, fresh_of N mc8 hg hne⟩⟩
theorem tabs_same {g h h' : Heap} {L c5 c8 : Addr} {t5 t8 o5 o8 : Obj} {news : List (Addr × Obj)} (TB : Tabs t5 t8 c5 c8 o5 o8) (N : News g L h' news) (m5 : (65, t5) ∈ news) (m8 : (58, t8) ∈ news) (mc5 : (c5, o5) ∈ news) (mc8 : (c8, o8) ∈ news) :
    ∃ t5' t8' c5' c8' o5' o8', TabsOut h c5 c8 h' t5' t8' c5' c8' o5' o8' := ⟨t5, t8, c5, c8, o5, o8, TB, N.get m5, N.get m8, N.get mc5, N.get mc8, .inl rfl, .inl rfl⟩
theorem ret_list {g h h' : Heap} {L D : Addr} {vs : Array Value} {c : Nat} {ns : List Int} {news : List (Addr × Obj)} {l : List Addr} (N : News g L h' news) (hg : g = hideAll h l) (mD : (D, W.listOf vs c) ∈ news) (hne : D ∉ l) (hI : IntsAre vs.toList ns) :
    ∃ D', Value.ref D = .ref D' ∧ h.get? D' = none ∧ ∃ o, h'.get? D' = some o ∧ (∃ its c, o.data = .seq its c) ∧ ∃ vs c, o = W.listOf vs c ∧ IntsAre vs.toList ns :=
  ⟨D, rfl, fresh_of N mD hg hne, _, N.get mD, ⟨_, _, rfl⟩, _, _, rfl, hI⟩
noncomputable def nbOf (a n : Int) : Nat := (((Builtin.Int.intBits a : Nat) : Int) + n - 1).fdiv n |>.toNat
noncomputable def digsOf (a n : Int) : List Int := (List.range (nbOf a n)).map fun j => dig a n j (nbOf a n)
theorem intsAre_pt : ∀ {vs : List Value} {ns : List Int}, vs.length = ns.length → (∀ (i : Nat) (n : Int), ns[i]? = some n → ∃ t : Tok, vs[i]? = some (Value.int n t)) → IntsAre vs ns
  | [], [], _, _ => .nil
  | v :: vs, n :: ns, hl, h => by
    obtain ⟨t, ht⟩ := h 0 n rfl
    have : v = .int n t := by simpa using ht
    subst this
    exact .cons n t (intsAre_pt (by simpa using hl) fun i m hm => by simpa using h (i + 1) m (by simpa using hm))
  | [], _ :: _, hl, _ => by simp at hl
  | _ :: _, [], hl, _ => by simp at hl
theorem nb_facts {a n : Int} (h0 : 0 ≤ a) (h1 : a < 1048576) (h2 : 1 ≤ n) : 0 ≤ (((Builtin.Int.intBits a : Nat) : Int) + n - 1).fdiv n ∧ (((Builtin.Int.intBits a : Nat) : Int) + n - 1).fdiv n ≤ 40 ∧ (a ≠ 0 → 1 ≤ (((Builtin.Int.intBits a : Nat) : Int) + n - 1).fdiv n) ∧ (a = 0 → (((Builtin.Int.intBits a : Nat) : Int) + n - 1).fdiv n = 0) := by
  have hb := bits40 h0 (by omega : a < 1099511627776)
  have hb1 : a ≠ 0 → 1 ≤ ((Builtin.Int.intBits a : Nat) : Int) := fun h => by
    unfold Builtin.Int.intBits
    rw [if_neg (by simpa using h)]
    omega
  have hb2 : a = 0 → ((Builtin.Int.intBits a : Nat) : Int) = 0 := fun h => by
    subst h; decide
  generalize ((Builtin.Int.intBits a : Nat) : Int) = b at hb hb1 hb2 ⊢
  have hbn : 0 ≤ b := by
    by_cases h : a = 0
    · rw [hb2 h]; decide
    · have := hb1 h; omega
  rw [Int.fdiv_eq_ediv_of_nonneg _ (by omega)]
  have e1 := Int.ediv_mul_le (b + n - 1) (by omega : n ≠ 0)
  have e2 := Int.lt_ediv_add_one_mul_self (b + n - 1) (by omega : 0 < n)
  generalize (b + n - 1) / n = q at e1 e2 ⊢
  have q0 : 0 ≤ q := by
    false_or_by_contra
    have : (q + 1) * n ≤ 0 := Int.mul_nonpos_of_nonpos_of_nonneg (by omega) (by omega)
    omega
  refine ⟨q0, ?_, fun h => ?_, fun h => ?_⟩
  · false_or_by_contra
    have e3 : 41 * n ≤ q * n := Int.mul_le_mul_of_nonneg_right (by omega) (by omega)
    omega
  · false_or_by_contra
    have hq : q = 0 := by omega
    subst hq
    have := hb1 h
    omega
  · have := hb2 h
    false_or_by_contra
    have e3 : 1 * n ≤ q * n := Int.mul_le_mul_of_nonneg_right (by omega) (by omega)
    omega
theorem digs_ints {its its' : Array Value} {a n : Int} (hs : its.size = nbOf a n) (h : IntoDigits its its' a n 0 (nbOf a n)) : IntsAre its'.toList (digsOf a n) := by
  refine intsAre_pt (by simp [digsOf, h.1, hs]) fun i m hm => ?_
  have hi : i < nbOf a n := by
    have := List.getElem?_eq_some_iff.mp hm
    obtain ⟨hlt, _⟩ := this
    simpa [digsOf] using hlt
  obtain ⟨t, ht⟩ := h.2.1 i (by omega) (by omega)
  refine ⟨t, ?_⟩
  have e : m = dig a n i (nbOf a n) := by
    simp [digsOf, hi] at hm
    exact hm.symm
  rw [e]
  simpa using ht
theorem digs_zero {a n : Int} {v : Value} (h : (((Builtin.Int.intBits a : Nat) : Int) + n - 1).fdiv n = 0) : IntsAre (Array.replicate ((((Builtin.Int.intBits a : Nat) : Int) + n - 1).fdiv n).toNat v).toList (digsOf a n) := by
  have e : nbOf a n = 0 := by unfold nbOf; rw [h]; rfl
  unfold digsOf
  rw [e, h]
  exact .nil
theorem keyAt_ind {w : World} {f : Addr} {fo : Obj} {ca ci cn D : Addr} {n : Int} {c' : Addr} {qual : Str} (step : ∀ k, (∀ j, j < k → KeyAt w f fo ca ci cn D n c' qual j) → KeyAt w f fo ca ci cn D n c' qual k) : ∀ k, KeyAt w f fo ca ci cn D n c' qual k := fun k => by
  induction k using Nat.strongRecOn with
  | ind k ih => exact step k ih
noncomputable def fnOfS : Stmt → Option (Arguments × List Stmt × Scope)
  | .FunctionDef _ ps body _ _ _ scope _ _ _ => some (ps, body, scope)
  | _ => none
theorem inner_key {params : Arguments} {body : List Stmt} {scope : Scope} (e : ((PySem.Challenge.pw_ph0131_01.main.body[6]?.bind fnOfS).bind fun x => x.2.1[1]?.bind fnOfS) = some (params, body, scope)) {w : World} {n : Int} (h2 : 1 ≤ n) (h3 : n < 20)
    (f ca ci cn D c' : Addr) (q : Str) (doc pm ctv : Value) (k : Nat) : KeyAt w f (fnMade (Str.ofString "inner") q params body scope [(Str.ofString "n", cn), (Str.ofString "inner", ci), (Str.ofString "a_digits", ca)] doc pm c' ctv) ca ci cn D n c' q k := by
  cases e
  refine keyAt_ind ?_ _
  intro k ih s x l r tx tl tr its cc hx0 hx1 hl0 hlr hr his hkk hfo hcode hca hci hcn
  obtain ⟨oa, hca1, hca2⟩ := hca
  obtain ⟨oi, hci1, hci2⟩ := hci
  obtain ⟨tn, on, hcn1, hcn2⟩ := hcn
  intro p loose mean mg mb dp un gd cn cs fa ccd cl outer A₀ base h₀ L m Q E B F N X T hk hd hu hret
  refine wpAny_call ?_
  refine' enterN B F X N T ?kA ?kF ?kK hfo ?kd hcode ?k8 ?k9 ?kB ?_ ?c2 ?c3 ?c4 ?c5
  case kA => exact rfl
  case kF => exact rfl
  case kK => exact hk
  case kd => exact rfl
  case k8 => ktr_room
  case k9 => exact BindsTo.of_eq rfl
  case kB => exact locs rfl
  case c2 => exact rfl
  case c3 => exact rfl
  case c4 => exact rfl
  case c5 => decide
  intro g2 L2 h2 hg2 F2 N2 B2 X2 T2 l2
  have gf := hideAll_get _ hfo (not_foot N hfo (by intro _ _ x; cases x))
  have ga := hideAll_get _ hca1 (not_foot N hca1 (by intro _ _ x; rw [hca2] at x; cases x))
  have gi := hideAll_get _ hci1 (not_foot N hci1 (by intro _ _ x; rw [hci2] at x; cases x))
  have gn := hideAll_get _ hcn1 (not_foot N hcn1 (by intro _ _ x; rw [hcn2] at x; cases x))
  have gcode : (hideAll s.heap (List.map (fun x => x.1) [(_, W.listOf its cc)])).CodeRec _ _ := (let ⟨c0, oc0, vs0, t0, e0, e1, e2, e3⟩ := hcode; ⟨c0, oc0, vs0, t0, e0, hideAll_get _ e1 (not_foot N e1 (by intro _ _ x; rw [e2] at x; cases x)), e2, e3⟩)
  rw [← hg2] at gf ga gi gn gcode
  obtain ⟨mid, hmid⟩ : ∃ mid, (l + r).fdiv (2 ^ Int.toNat 1) = mid := ⟨_, rfl⟩
  have hmid2 : mid = (l + r) / 2 := by rw [← hmid, fdiv_pow]; rfl
  obtain ⟨sh, hsh⟩ : ∃ sh, (mid - l) * n = sh := ⟨_, rfl⟩
  have hsh0 : 0 ≤ sh := by rw [← hsh]; exact Int.mul_nonneg (by omega) (by omega)
  have hsh1 : sh ≤ 800 := by
    have e1 : (mid - l) * n ≤ 40 * n := Int.mul_le_mul_of_nonneg_right (by omega) (by omega)
    omega
  obtain ⟨up, hup⟩ : ∃ up, x.fdiv (2 ^ sh.toNat) = up := ⟨_, rfl⟩
  have hup2 : x / 2 ^ sh.toNat = up := by rw [← hup, fdiv_pow]
  obtain ⟨ul, hul⟩ : ∃ ul, up * 2 ^ sh.toNat = ul := ⟨_, rfl⟩
  obtain ⟨lo, hlo⟩ : ∃ lo, Builtin.bitXor x ul = lo := ⟨_, rfl⟩
  have hlo2 : x % 2 ^ sh.toNat = lo := by rw [← hlo, ← hul, ← hup2, xor_low hx0]
  have hup3 : 0 ≤ up ∧ up ≤ x := by rw [← hup2]; exact ⟨Int.ediv_nonneg hx0 (by rw [pow_cast]; exact Int.natCast_nonneg _), Int.ediv_le_self _ hx0⟩
  have hlo3 : 0 ≤ lo ∧ lo ≤ x := by
    rw [← hlo2]
    have p0 := pow_pos2 sh.toNat
    have e2 := Int.emod_add_mul_ediv x (2 ^ sh.toNat)
    have e3 : 0 ≤ 2 ^ sh.toNat * (x / 2 ^ sh.toNat) := Int.mul_nonneg (by rw [pow_cast]; exact Int.natCast_nonneg _) (Int.ediv_nonneg hx0 (by rw [pow_cast]; exact Int.natCast_nonneg _))
    exact ⟨Int.emod_nonneg _ (by rw [pow_cast]; omega), by omega⟩
  (try dsimp only)
  (try k_fold)
  (repeat' (first | (k_unfold; (try dsimp only)) | (k_end; kc_close) | (first | ((with_reducible show wpAny _ _ (eval (PySem.Expr.Name _ _) _) _ _ _); k_dflt (refine' nameX_L ?F ?v ?_ ?a ?b (by decide); (case F => k_asm); (case v => exact Eq.refl (some _)); (case a => exact Eq.refl ScopeKind.function); (case b => exact Eq.refl (some NameKind.local)); k_whole)) | ((with_reducible show wpAny _ _ (eval (PySem.Expr.BinOp (PySem.Expr.Name _ _) _ (PySem.Expr.Name _ _) _) _) _ _ _); k_dflt (refine' bin_nn ?F ?v ?v2 ?_ ?a ?b ?b2 (by decide) (by decide); (case F => k_asm); (case v => exact Eq.refl (some _)); (case a => exact Eq.refl ScopeKind.function); (case b => exact Eq.refl (some NameKind.local)); (case v2 => exact Eq.refl (some _)); (case b2 => exact Eq.refl (some NameKind.local)); k_whole)) | ((with_reducible show wpAny _ _ (eval (PySem.Expr.BinOp (PySem.Expr.Name _ _) _ _ _) _) _ _ _); k_dflt (refine' bin_n ?F ?v ?_ ?a ?b (by decide); (case F => k_asm); (case v => exact Eq.refl (some _)); (case a => exact Eq.refl ScopeKind.function); (case b => exact Eq.refl (some NameKind.local)); k_whole)) | ((with_reducible show wpAny _ _ (execs (Stmt.Assign [PySem.Expr.Name _ _] _ _ :: _) _) _ _ _); k_dflt (refine' asg ?_; k_whole)) | ((with_reducible show wpAny _ _ (storeName _ _ _) _ _ _); k_dflt (refine' st_tk ?F ?N ?_ ?a ?b; (case F => k_asm); (case N => k_asm); (case a => exact Eq.refl ScopeKind.function); (case b => exact Eq.refl (some NameKind.local)); k_whole); intro h_z tk_z F_z N_z; (try k_sweep)) | ((with_reducible show wpAny _ _ (spliced (backTo _ (starEach (PySem.Expr.Name _ _ :: _) _))) _ _ _); k_dflt (refine' sp_n ?F ?v ?_ ?a ?b (by decide); (case F => k_asm); (case v => exact Eq.refl (some _)); (case a => exact Eq.refl ScopeKind.function); (case b => exact Eq.refl (some NameKind.local)); k_whole)) | ((with_reducible show wpAny _ _ (spliced (backTo _ (starEach (PySem.Expr.Constant (PySem.Const.int _) _ _ :: _) _))) _ _ _); k_dflt (refine' sp_c ?_; k_whole)) | ((with_reducible show wpAny _ _ (binaryOp Operator.BitXor (Value.int _ _) (Value.int _ _)) _ _ _); k_dflt (refine' xor_to ?k2 ?_; (case k2 => assumption); k_whole); intro tq_z tkq_z) | ((with_reducible show wpAny _ _ (binaryOp Operator.Mult (Value.int _ _) (Value.int _ _)) _ _ _); k_dflt (refine' mul_to ?k1 ?k2 ?_; (case k2 => assumption); (case k1 => mul_fits); k_whole); intro tq_z tkq_z) | ((with_reducible show wpAny _ _ (binaryOp Operator.LShift (Value.int _ _) (Value.int _ _)) _ _ _); k_dflt (refine' shl_to ?k1 ?k2 ?k3 ?k4 ?_; (case k4 => assumption); (case k1 => omega); (case k2 => omega); (case k3 => omega); k_whole); intro tq_z tkq_z) | ((with_reducible show wpAny _ _ (binaryOp Operator.RShift (Value.int _ _) (Value.int _ _)) _ _ _); k_dflt (refine' shr_to ?k1 ?k2 ?_; (case k2 => assumption); (case k1 => omega); k_whole); intro tq_z tkq_z) | ((with_reducible show wpAny _ _ (binaryOp Operator.Mult (Value.ref _) (Value.int _ _)) _ _ _); k_dflt (refine' mul_rep ?k1 ?k2 ?k3 ?k4 ?k5 ?_; (case k1 => k_asm); (case k2 => k_asm); (case k3 => k_mem); (case k4 => omega); (case k5 => omega); k_whole); intro lq_z hq_z Fq_z Nq_z l1_z; (try k_lt l1_z); (try k_sweep)) | ((with_reducible show wpAny _ _ (setItem (Value.ref _) (Value.int _ _) _) _ _ _); k_dflt (refine' set_led ?k1 ?k2 ?k3 ?k4 ?k5 ?k6 ?_; (case k1 => k_asm); (case k2 => k_asm); (case k6 => k_upd); (case k3 => omega); (case k4 => omega); (case k5 => omega); k_whole); intro hq_z Fq_z Nq_z; (try k_sweep)) | ((with_reducible show wpAny _ _ (call (Value.ref _) [Value.int _ _, Value.int _ _, Value.int _ _]) _ _ _); k_dflt (refine' use_ih ?key ?k1 ?k2 ?k3 ?k4 ?kK ?k5 ?kU ?kf ?kc ?ka ?ki ?kn ?b1 ?b2 ?b3 ?kd ?ku ?_; (case key => assumption); (case k1 => k_asm); (case k2 => k_asm); (case k3 => k_asm); (case k4 => k_asm); (case kK => rfl); (case k5 => k_asm); (case kU => k_updF); (case kf => assumption); (case kc => assumption); (case ka => exact ⟨_, by assumption, by assumption⟩); (case ki => exact ⟨_, by assumption, by assumption⟩); (case kn => exact ⟨_, _, by assumption, by assumption⟩); (case b1 => exact ⟨by omega, by omega⟩); (case b2 => exact ⟨by omega, by omega, by omega, by omega⟩); (case b3 => omega); (case kd => ktr_room); (case ku => ktr_units); k_whole); intro hq_z tkq_z itsq_z ccq_z Fq_z Nq_z hIq_z; k_dflt (have hIsq_z := hIq_z.1); (try dsimp only at Nq_z); (try k_sweep)) | ((with_reducible show wpAny _ _ (callWith _ (Value.ref _) _ _ _) _ _ _); k_dflt (refine' callWith_F ?k1 ?_; (case k1 => exact fnAt_base (by k_asm) (by assumption)); k_whole)) | ((with_reducible show wpAny _ _ (eval (PySem.Expr.Name _ _) _) _ _ _); k_dflt (refine' nameX_base ?F ?c ?o ?d ?_ ?a ?b; (case a => rfl); (case b => rfl); (case F => k_asm); (case c => rfl); (case o => assumption); (case d => assumption); k_whole)) | ((with_reducible show wpAny _ _ (call (Value.builtin "len") [Value.ref _]) _ _ _); k_dflt (refine' len_led ?k1 ?k2 ?k3 ?k4 ?_; (case k1 => k_asm); (case k2 => k_mem); (case k3 => (first | exact Array.size_replicate | rfl)); (case k4 => (first | omega | decide)); k_whole); intro tq_z tkq_z; (try k_sweep)) | walk1 | ((with_reducible show FnAt _ _); k_dflt (exact fnAt_base (by k_asm) (by assumption)))) | (dsimp only; (first | ((with_reducible show wpAny _ _ (eval (PySem.Expr.Name _ _) _) _ _ _); k_dflt (refine' nameX_L ?F ?v ?_ ?a ?b (by decide); (case F => k_asm); (case v => exact Eq.refl (some _)); (case a => exact Eq.refl ScopeKind.function); (case b => exact Eq.refl (some NameKind.local)); k_whole)) | ((with_reducible show wpAny _ _ (eval (PySem.Expr.BinOp (PySem.Expr.Name _ _) _ (PySem.Expr.Name _ _) _) _) _ _ _); k_dflt (refine' bin_nn ?F ?v ?v2 ?_ ?a ?b ?b2 (by decide) (by decide); (case F => k_asm); (case v => exact Eq.refl (some _)); (case a => exact Eq.refl ScopeKind.function); (case b => exact Eq.refl (some NameKind.local)); (case v2 => exact Eq.refl (some _)); (case b2 => exact Eq.refl (some NameKind.local)); k_whole)) | ((with_reducible show wpAny _ _ (eval (PySem.Expr.BinOp (PySem.Expr.Name _ _) _ _ _) _) _ _ _); k_dflt (refine' bin_n ?F ?v ?_ ?a ?b (by decide); (case F => k_asm); (case v => exact Eq.refl (some _)); (case a => exact Eq.refl ScopeKind.function); (case b => exact Eq.refl (some NameKind.local)); k_whole)) | ((with_reducible show wpAny _ _ (execs (Stmt.Assign [PySem.Expr.Name _ _] _ _ :: _) _) _ _ _); k_dflt (refine' asg ?_; k_whole)) | ((with_reducible show wpAny _ _ (storeName _ _ _) _ _ _); k_dflt (refine' st_tk ?F ?N ?_ ?a ?b; (case F => k_asm); (case N => k_asm); (case a => exact Eq.refl ScopeKind.function); (case b => exact Eq.refl (some NameKind.local)); k_whole); intro h_z tk_z F_z N_z; (try k_sweep)) | ((with_reducible show wpAny _ _ (spliced (backTo _ (starEach (PySem.Expr.Name _ _ :: _) _))) _ _ _); k_dflt (refine' sp_n ?F ?v ?_ ?a ?b (by decide); (case F => k_asm); (case v => exact Eq.refl (some _)); (case a => exact Eq.refl ScopeKind.function); (case b => exact Eq.refl (some NameKind.local)); k_whole)) | ((with_reducible show wpAny _ _ (spliced (backTo _ (starEach (PySem.Expr.Constant (PySem.Const.int _) _ _ :: _) _))) _ _ _); k_dflt (refine' sp_c ?_; k_whole)) | ((with_reducible show wpAny _ _ (binaryOp Operator.BitXor (Value.int _ _) (Value.int _ _)) _ _ _); k_dflt (refine' xor_to ?k2 ?_; (case k2 => assumption); k_whole); intro tq_z tkq_z) | ((with_reducible show wpAny _ _ (binaryOp Operator.Mult (Value.int _ _) (Value.int _ _)) _ _ _); k_dflt (refine' mul_to ?k1 ?k2 ?_; (case k2 => assumption); (case k1 => mul_fits); k_whole); intro tq_z tkq_z) | ((with_reducible show wpAny _ _ (binaryOp Operator.LShift (Value.int _ _) (Value.int _ _)) _ _ _); k_dflt (refine' shl_to ?k1 ?k2 ?k3 ?k4 ?_; (case k4 => assumption); (case k1 => omega); (case k2 => omega); (case k3 => omega); k_whole); intro tq_z tkq_z) | ((with_reducible show wpAny _ _ (binaryOp Operator.RShift (Value.int _ _) (Value.int _ _)) _ _ _); k_dflt (refine' shr_to ?k1 ?k2 ?_; (case k2 => assumption); (case k1 => omega); k_whole); intro tq_z tkq_z) | ((with_reducible show wpAny _ _ (binaryOp Operator.Mult (Value.ref _) (Value.int _ _)) _ _ _); k_dflt (refine' mul_rep ?k1 ?k2 ?k3 ?k4 ?k5 ?_; (case k1 => k_asm); (case k2 => k_asm); (case k3 => k_mem); (case k4 => omega); (case k5 => omega); k_whole); intro lq_z hq_z Fq_z Nq_z l1_z; (try k_lt l1_z); (try k_sweep)) | ((with_reducible show wpAny _ _ (setItem (Value.ref _) (Value.int _ _) _) _ _ _); k_dflt (refine' set_led ?k1 ?k2 ?k3 ?k4 ?k5 ?k6 ?_; (case k1 => k_asm); (case k2 => k_asm); (case k6 => k_upd); (case k3 => omega); (case k4 => omega); (case k5 => omega); k_whole); intro hq_z Fq_z Nq_z; (try k_sweep)) | ((with_reducible show wpAny _ _ (call (Value.ref _) [Value.int _ _, Value.int _ _, Value.int _ _]) _ _ _); k_dflt (refine' use_ih ?key ?k1 ?k2 ?k3 ?k4 ?kK ?k5 ?kU ?kf ?kc ?ka ?ki ?kn ?b1 ?b2 ?b3 ?kd ?ku ?_; (case key => assumption); (case k1 => k_asm); (case k2 => k_asm); (case k3 => k_asm); (case k4 => k_asm); (case kK => rfl); (case k5 => k_asm); (case kU => k_updF); (case kf => assumption); (case kc => assumption); (case ka => exact ⟨_, by assumption, by assumption⟩); (case ki => exact ⟨_, by assumption, by assumption⟩); (case kn => exact ⟨_, _, by assumption, by assumption⟩); (case b1 => exact ⟨by omega, by omega⟩); (case b2 => exact ⟨by omega, by omega, by omega, by omega⟩); (case b3 => omega); (case kd => ktr_room); (case ku => ktr_units); k_whole); intro hq_z tkq_z itsq_z ccq_z Fq_z Nq_z hIq_z; k_dflt (have hIsq_z := hIq_z.1); (try dsimp only at Nq_z); (try k_sweep)) | ((with_reducible show wpAny _ _ (callWith _ (Value.ref _) _ _ _) _ _ _); k_dflt (refine' callWith_F ?k1 ?_; (case k1 => exact fnAt_base (by k_asm) (by assumption)); k_whole)) | ((with_reducible show wpAny _ _ (eval (PySem.Expr.Name _ _) _) _ _ _); k_dflt (refine' nameX_base ?F ?c ?o ?d ?_ ?a ?b; (case a => rfl); (case b => rfl); (case F => k_asm); (case c => rfl); (case o => assumption); (case d => assumption); k_whole)) | ((with_reducible show wpAny _ _ (call (Value.builtin "len") [Value.ref _]) _ _ _); k_dflt (refine' len_led ?k1 ?k2 ?k3 ?k4 ?_; (case k1 => k_asm); (case k2 => k_mem); (case k3 => (first | exact Array.size_replicate | rfl)); (case k4 => (first | omega | decide)); k_whole); intro tq_z tkq_z; (try k_sweep)) | walk1 | ((with_reducible show FnAt _ _); k_dflt (exact fnAt_base (by k_asm) (by assumption))))) | (leave1; walk_say "STEP leave1"; (try dsimp only)) | fail "no step"))
  · (rename Fr _ _ _ _ => F9)
    (rename News _ _ _ _ => N9)
    exact hret _ _ _ (fun b o hb e => F9.keep b o (by rw [hg2]; exact hideAll_get _ e hb)) ⟨rfl, _, _, News.get N9 (List.Mem.head _), into_leaf hl0 (by omega) hr hx0⟩
  · (rename Fr _ _ _ _ => F9)
    (rename News _ _ _ _ => N9)
    (rename IntoDigits _ _ up _ _ _ => I2)
    (rename IntoDigits _ _ lo _ _ _ => I1)
    exact hret _ _ _ (fun b o hb e => F9.keep b o (by rw [hg2]; exact hideAll_get _ e hb)) ⟨rfl, _, _, News.get N9 (List.Mem.head _), into_node hl0 (by omega) (by omega) (by omega) hx0 hsh hup2 hlo2 I1 I2⟩
theorem d_i2d {w : World} {a n : Int} {t1 t2 : Tok} {s : Shared} (h0 : 0 ≤ a) (h1 : a < 1048576) (h2 : 1 ≤ n) (h3 : n < 20) :
    DoesT w 45 63 [.int a t1, .int n t2] s (fun v h => ∃ D, v = .ref D ∧ s.heap.get? D = none ∧ ∃ o, h.get? D = some o ∧ (∃ its c, o.data = .seq its c) ∧ ∃ vs c, o = W.listOf vs c ∧ IntsAre vs.toList (digsOf a n)) := by
  intro t5 t8 c5 c8 o5 o8 TB
  intro p loose mean mg mb dp un gd cn cs fa ccd cl outer A₀ base h₀ L m Q E B F N X T hk hd hu hret
  refine wpAny_call ?_
  have hb40 := bits40 h0 (by omega)
  obtain ⟨hk0, hk1, hk2, hk3⟩ := nb_facts h0 h1 h2
  rcases TB.k8 with ⟨ht8, hc8⟩ | ⟨ht8, hc8, hcode⟩
  · subst ht8
    k_dflt ((refine' enterC ?k1 ?k2 ?k3 ?k4 ?k5 ?kA ?kF ?kK ?k6 ?k7 ?k8 ?k9 ?kB ?kC ?_ ?c2 ?c3 ?c4; (case kA => exact rfl); (case kF => exact rfl); (case kK => assumption); (case k1 => k_asm); (case k2 => k_asm); (case k3 => k_asm); (case k4 => k_asm); (case k5 => k_asm); (case k6 => k_is); (case k7 => k_is); (case k8 => ktr_room); (case k9 => exact BindsTo.of_eq rfl); (case kB => exact rfl); (case kC => decide); (case c2 => exact rfl); (case c3 => exact rfl); (case c4 => exact rfl); k_whole))
    intro g' L' h' tk' cells' hg' F' N' Y' B' X' T' l0'
    k_cells Y'
    have l0 := l0'
    k_lt l0
    have N2 : News g' L' h' _ := fun q hq => N' q (List.mem_append.mpr ((List.mem_append.mp hq).imp (fun h => h) (fun (h : q ∈ [(65, t5), (58, tabObj #[]), (c5, o5)]) => by simp only [tail4, List.mem_cons, List.not_mem_nil, or_false] at h ⊢; rcases h with h | h | h <;> simp [h])))
    clear N'
    simp only [List.cons_append, List.nil_append] at N2
    have hc5n : @Ne Nat c5 58 := TB.c5n
    have codeHd : CodeHd g' 62 58 := codeHd_of_K X' (by kernel_rfl)
    (try dsimp only)
    (try k_fold)
    (repeat' (first | (k_unfold; (try dsimp only)) | (k_end; kc_close) | (first | ((with_reducible show wpAny _ _ (eval (PySem.Expr.Name _ _) _) _ _ _); k_dflt (refine' nameX_L ?F ?v ?_ ?a ?b (by decide); (case F => k_asm); (case v => exact Eq.refl (some _)); (case a => exact Eq.refl ScopeKind.function); (case b => exact Eq.refl (some NameKind.local)); k_whole)) | ((with_reducible show wpAny _ _ (eval (PySem.Expr.BinOp (PySem.Expr.Name _ _) _ (PySem.Expr.Name _ _) _) _) _ _ _); k_dflt (refine' bin_nn ?F ?v ?v2 ?_ ?a ?b ?b2 (by decide) (by decide); (case F => k_asm); (case v => exact Eq.refl (some _)); (case a => exact Eq.refl ScopeKind.function); (case b => exact Eq.refl (some NameKind.local)); (case v2 => exact Eq.refl (some _)); (case b2 => exact Eq.refl (some NameKind.local)); k_whole)) | ((with_reducible show wpAny _ _ (eval (PySem.Expr.BinOp (PySem.Expr.Name _ _) _ _ _) _) _ _ _); k_dflt (refine' bin_n ?F ?v ?_ ?a ?b (by decide); (case F => k_asm); (case v => exact Eq.refl (some _)); (case a => exact Eq.refl ScopeKind.function); (case b => exact Eq.refl (some NameKind.local)); k_whole)) | ((with_reducible show wpAny _ _ (execs (Stmt.Assign [PySem.Expr.Name _ _] _ _ :: _) _) _ _ _); k_dflt (refine' asg ?_; k_whole)) | ((with_reducible show wpAny _ _ (storeName _ _ _) _ _ _); k_dflt (refine' st_tk ?F ?N ?_ ?a ?b; (case F => k_asm); (case N => k_asm); (case a => exact Eq.refl ScopeKind.function); (case b => exact Eq.refl (some NameKind.local)); k_whole); intro h_z tk_z F_z N_z; (try k_sweep)) | ((with_reducible show wpAny _ _ (spliced (backTo _ (starEach (PySem.Expr.Name _ _ :: _) _))) _ _ _); k_dflt (refine' sp_n ?F ?v ?_ ?a ?b (by decide); (case F => k_asm); (case v => exact Eq.refl (some _)); (case a => exact Eq.refl ScopeKind.function); (case b => exact Eq.refl (some NameKind.local)); k_whole)) | ((with_reducible show wpAny _ _ (spliced (backTo _ (starEach (PySem.Expr.Constant (PySem.Const.int _) _ _ :: _) _))) _ _ _); k_dflt (refine' sp_c ?_; k_whole)) | ((with_reducible show wpAny _ _ (binaryOp Operator.BitXor (Value.int _ _) (Value.int _ _)) _ _ _); k_dflt (refine' xor_to ?k2 ?_; (case k2 => assumption); k_whole); intro tq_z tkq_z) | ((with_reducible show wpAny _ _ (binaryOp Operator.Mult (Value.int _ _) (Value.int _ _)) _ _ _); k_dflt (refine' mul_to ?k1 ?k2 ?_; (case k2 => assumption); (case k1 => mul_fits); k_whole); intro tq_z tkq_z) | ((with_reducible show wpAny _ _ (binaryOp Operator.LShift (Value.int _ _) (Value.int _ _)) _ _ _); k_dflt (refine' shl_to ?k1 ?k2 ?k3 ?k4 ?_; (case k4 => assumption); (case k1 => omega); (case k2 => omega); (case k3 => omega); k_whole); intro tq_z tkq_z) | ((with_reducible show wpAny _ _ (binaryOp Operator.RShift (Value.int _ _) (Value.int _ _)) _ _ _); k_dflt (refine' shr_to ?k1 ?k2 ?_; (case k2 => assumption); (case k1 => omega); k_whole); intro tq_z tkq_z) | ((with_reducible show wpAny _ _ (binaryOp Operator.Mult (Value.ref _) (Value.int _ _)) _ _ _); k_dflt (refine' mul_rep ?k1 ?k2 ?k3 ?k4 ?k5 ?_; (case k1 => k_asm); (case k2 => k_asm); (case k3 => k_mem); (case k4 => omega); (case k5 => omega); k_whole); intro lq_z hq_z Fq_z Nq_z l1_z; (try k_lt l1_z); (try k_sweep)) | ((with_reducible show wpAny _ _ (setItem (Value.ref _) (Value.int _ _) _) _ _ _); k_dflt (refine' set_led ?k1 ?k2 ?k3 ?k4 ?k5 ?k6 ?_; (case k1 => k_asm); (case k2 => k_asm); (case k6 => k_upd); (case k3 => omega); (case k4 => omega); (case k5 => omega); k_whole); intro hq_z Fq_z Nq_z; (try k_sweep)) | ((with_reducible show wpAny _ _ (call (Value.ref _) [Value.int _ _, Value.int _ _, Value.int _ _]) _ _ _); k_dflt (refine' use_ih ?key ?k1 ?k2 ?k3 ?k4 ?kK ?k5 ?kU ?kf ?kc ?ka ?ki ?kn ?b1 ?b2 ?b3 ?kd ?ku ?_; (case key => assumption); (case k1 => k_asm); (case k2 => k_asm); (case k3 => k_asm); (case k4 => k_asm); (case kK => rfl); (case k5 => k_asm); (case kU => k_updF); (case kf => assumption); (case kc => assumption); (case ka => exact ⟨_, by assumption, by assumption⟩); (case ki => exact ⟨_, by assumption, by assumption⟩); (case kn => exact ⟨_, _, by assumption, by assumption⟩); (case b1 => exact ⟨by omega, by omega⟩); (case b2 => exact ⟨by omega, by omega, by omega, by omega⟩); (case b3 => omega); (case kd => ktr_room); (case ku => ktr_units); k_whole); intro hq_z tkq_z itsq_z ccq_z Fq_z Nq_z hIq_z; k_dflt (have hIsq_z := hIq_z.1); (try dsimp only at Nq_z); (try k_sweep)) | ((with_reducible show wpAny _ _ (callWith _ (Value.ref _) _ _ _) _ _ _); k_dflt (refine' callWith_F ?k1 ?_; (case k1 => exact fnAt_base (by k_asm) (by assumption)); k_whole)) | ((with_reducible show wpAny _ _ (eval (PySem.Expr.Name _ _) _) _ _ _); k_dflt (refine' nameX_base ?F ?c ?o ?d ?_ ?a ?b; (case a => rfl); (case b => rfl); (case F => k_asm); (case c => rfl); (case o => assumption); (case d => assumption); k_whole)) | ((with_reducible show wpAny _ _ (call (Value.builtin "len") [Value.ref _]) _ _ _); k_dflt (refine' len_led ?k1 ?k2 ?k3 ?k4 ?_; (case k1 => k_asm); (case k2 => k_mem); (case k3 => (first | exact Array.size_replicate | rfl)); (case k4 => (first | omega | decide)); k_whole); intro tq_z tkq_z; (try k_sweep)) | walk1 | ((with_reducible show FnAt _ _); k_dflt (exact fnAt_base (by k_asm) (by assumption)))) | (dsimp only; (first | ((with_reducible show wpAny _ _ (eval (PySem.Expr.Name _ _) _) _ _ _); k_dflt (refine' nameX_L ?F ?v ?_ ?a ?b (by decide); (case F => k_asm); (case v => exact Eq.refl (some _)); (case a => exact Eq.refl ScopeKind.function); (case b => exact Eq.refl (some NameKind.local)); k_whole)) | ((with_reducible show wpAny _ _ (eval (PySem.Expr.BinOp (PySem.Expr.Name _ _) _ (PySem.Expr.Name _ _) _) _) _ _ _); k_dflt (refine' bin_nn ?F ?v ?v2 ?_ ?a ?b ?b2 (by decide) (by decide); (case F => k_asm); (case v => exact Eq.refl (some _)); (case a => exact Eq.refl ScopeKind.function); (case b => exact Eq.refl (some NameKind.local)); (case v2 => exact Eq.refl (some _)); (case b2 => exact Eq.refl (some NameKind.local)); k_whole)) | ((with_reducible show wpAny _ _ (eval (PySem.Expr.BinOp (PySem.Expr.Name _ _) _ _ _) _) _ _ _); k_dflt (refine' bin_n ?F ?v ?_ ?a ?b (by decide); (case F => k_asm); (case v => exact Eq.refl (some _)); (case a => exact Eq.refl ScopeKind.function); (case b => exact Eq.refl (some NameKind.local)); k_whole)) | ((with_reducible show wpAny _ _ (execs (Stmt.Assign [PySem.Expr.Name _ _] _ _ :: _) _) _ _ _); k_dflt (refine' asg ?_; k_whole)) | ((with_reducible show wpAny _ _ (storeName _ _ _) _ _ _); k_dflt (refine' st_tk ?F ?N ?_ ?a ?b; (case F => k_asm); (case N => k_asm); (case a => exact Eq.refl ScopeKind.function); (case b => exact Eq.refl (some NameKind.local)); k_whole); intro h_z tk_z F_z N_z; (try k_sweep)) | ((with_reducible show wpAny _ _ (spliced (backTo _ (starEach (PySem.Expr.Name _ _ :: _) _))) _ _ _); k_dflt (refine' sp_n ?F ?v ?_ ?a ?b (by decide); (case F => k_asm); (case v => exact Eq.refl (some _)); (case a => exact Eq.refl ScopeKind.function); (case b => exact Eq.refl (some NameKind.local)); k_whole)) | ((with_reducible show wpAny _ _ (spliced (backTo _ (starEach (PySem.Expr.Constant (PySem.Const.int _) _ _ :: _) _))) _ _ _); k_dflt (refine' sp_c ?_; k_whole)) | ((with_reducible show wpAny _ _ (binaryOp Operator.BitXor (Value.int _ _) (Value.int _ _)) _ _ _); k_dflt (refine' xor_to ?k2 ?_; (case k2 => assumption); k_whole); intro tq_z tkq_z) | ((with_reducible show wpAny _ _ (binaryOp Operator.Mult (Value.int _ _) (Value.int _ _)) _ _ _); k_dflt (refine' mul_to ?k1 ?k2 ?_; (case k2 => assumption); (case k1 => mul_fits); k_whole); intro tq_z tkq_z) | ((with_reducible show wpAny _ _ (binaryOp Operator.LShift (Value.int _ _) (Value.int _ _)) _ _ _); k_dflt (refine' shl_to ?k1 ?k2 ?k3 ?k4 ?_; (case k4 => assumption); (case k1 => omega); (case k2 => omega); (case k3 => omega); k_whole); intro tq_z tkq_z) | ((with_reducible show wpAny _ _ (binaryOp Operator.RShift (Value.int _ _) (Value.int _ _)) _ _ _); k_dflt (refine' shr_to ?k1 ?k2 ?_; (case k2 => assumption); (case k1 => omega); k_whole); intro tq_z tkq_z) | ((with_reducible show wpAny _ _ (binaryOp Operator.Mult (Value.ref _) (Value.int _ _)) _ _ _); k_dflt (refine' mul_rep ?k1 ?k2 ?k3 ?k4 ?k5 ?_; (case k1 => k_asm); (case k2 => k_asm); (case k3 => k_mem); (case k4 => omega); (case k5 => omega); k_whole); intro lq_z hq_z Fq_z Nq_z l1_z; (try k_lt l1_z); (try k_sweep)) | ((with_reducible show wpAny _ _ (setItem (Value.ref _) (Value.int _ _) _) _ _ _); k_dflt (refine' set_led ?k1 ?k2 ?k3 ?k4 ?k5 ?k6 ?_; (case k1 => k_asm); (case k2 => k_asm); (case k6 => k_upd); (case k3 => omega); (case k4 => omega); (case k5 => omega); k_whole); intro hq_z Fq_z Nq_z; (try k_sweep)) | ((with_reducible show wpAny _ _ (call (Value.ref _) [Value.int _ _, Value.int _ _, Value.int _ _]) _ _ _); k_dflt (refine' use_ih ?key ?k1 ?k2 ?k3 ?k4 ?kK ?k5 ?kU ?kf ?kc ?ka ?ki ?kn ?b1 ?b2 ?b3 ?kd ?ku ?_; (case key => assumption); (case k1 => k_asm); (case k2 => k_asm); (case k3 => k_asm); (case k4 => k_asm); (case kK => rfl); (case k5 => k_asm); (case kU => k_updF); (case kf => assumption); (case kc => assumption); (case ka => exact ⟨_, by assumption, by assumption⟩); (case ki => exact ⟨_, by assumption, by assumption⟩); (case kn => exact ⟨_, _, by assumption, by assumption⟩); (case b1 => exact ⟨by omega, by omega⟩); (case b2 => exact ⟨by omega, by omega, by omega, by omega⟩); (case b3 => omega); (case kd => ktr_room); (case ku => ktr_units); k_whole); intro hq_z tkq_z itsq_z ccq_z Fq_z Nq_z hIq_z; k_dflt (have hIsq_z := hIq_z.1); (try dsimp only at Nq_z); (try k_sweep)) | ((with_reducible show wpAny _ _ (callWith _ (Value.ref _) _ _ _) _ _ _); k_dflt (refine' callWith_F ?k1 ?_; (case k1 => exact fnAt_base (by k_asm) (by assumption)); k_whole)) | ((with_reducible show wpAny _ _ (eval (PySem.Expr.Name _ _) _) _ _ _); k_dflt (refine' nameX_base ?F ?c ?o ?d ?_ ?a ?b; (case a => rfl); (case b => rfl); (case F => k_asm); (case c => rfl); (case o => assumption); (case d => assumption); k_whole)) | ((with_reducible show wpAny _ _ (call (Value.builtin "len") [Value.ref _]) _ _ _); k_dflt (refine' len_led ?k1 ?k2 ?k3 ?k4 ?_; (case k1 => k_asm); (case k2 => k_mem); (case k3 => (first | exact Array.size_replicate | rfl)); (case k4 => (first | omega | decide)); k_whole); intro tq_z tkq_z; (try k_sweep)) | walk1 | ((with_reducible show FnAt _ _); k_dflt (exact fnAt_base (by k_asm) (by assumption))))) | (leave1; walk_say "STEP leave1"; (try dsimp only)) | fail "no step"))
    · (rename News _ _ _ _ => NL)
      (rename Fr _ _ _ _ => FL)
      refine' use_inner (ca := L' + 1 + 1) (ci := L' + 1 + 1 + 1) (cnn := L' + 1) (n := n) ?key B' FL X' T' rfl NL ?kU ?kf ?kc ?ka ?ki ?kn ?b1 ?b2 rfl ?hd ?hu ?ret
      case kf => exact News.get NL (by k_mem)
      case kc => exact codeRec_news NL (by k_mem) (by assumption) (by assumption)
      case ka => (refine' ⟨_, News.get NL ?m1, ?m2⟩; (case m1 => k_mem); (case m2 => assumption))
      case ki => (refine' ⟨_, News.get NL ?m1, ?m2⟩; (case m1 => k_mem); (case m2 => assumption))
      case kn => (refine' ⟨_, _, News.get NL ?m1, ?m2⟩; (case m1 => k_mem); (case m2 => assumption))
      case kU => k_updF
      case b1 => exact ⟨h0, by omega⟩
      case b2 => (have := hk2 (by assumption); rw [Array.size_replicate]; exact ⟨by omega, by omega, by omega, by omega⟩)
      case hd => ktr_room
      case hu => ktr_units
      case ret =>
        intro h9 tk9 its9 cc9 F9 N9 I9
        (try dsimp only at N9)
        clear FL NL
        (repeat' (first | (k_unfold; (try dsimp only)) | (k_end; kc_close) | (first | ((with_reducible show wpAny _ _ (eval (PySem.Expr.Name _ _) _) _ _ _); k_dflt (refine' nameX_L ?F ?v ?_ ?a ?b (by decide); (case F => k_asm); (case v => exact Eq.refl (some _)); (case a => exact Eq.refl ScopeKind.function); (case b => exact Eq.refl (some NameKind.local)); k_whole)) | ((with_reducible show wpAny _ _ (eval (PySem.Expr.BinOp (PySem.Expr.Name _ _) _ (PySem.Expr.Name _ _) _) _) _ _ _); k_dflt (refine' bin_nn ?F ?v ?v2 ?_ ?a ?b ?b2 (by decide) (by decide); (case F => k_asm); (case v => exact Eq.refl (some _)); (case a => exact Eq.refl ScopeKind.function); (case b => exact Eq.refl (some NameKind.local)); (case v2 => exact Eq.refl (some _)); (case b2 => exact Eq.refl (some NameKind.local)); k_whole)) | ((with_reducible show wpAny _ _ (eval (PySem.Expr.BinOp (PySem.Expr.Name _ _) _ _ _) _) _ _ _); k_dflt (refine' bin_n ?F ?v ?_ ?a ?b (by decide); (case F => k_asm); (case v => exact Eq.refl (some _)); (case a => exact Eq.refl ScopeKind.function); (case b => exact Eq.refl (some NameKind.local)); k_whole)) | ((with_reducible show wpAny _ _ (execs (Stmt.Assign [PySem.Expr.Name _ _] _ _ :: _) _) _ _ _); k_dflt (refine' asg ?_; k_whole)) | ((with_reducible show wpAny _ _ (storeName _ _ _) _ _ _); k_dflt (refine' st_tk ?F ?N ?_ ?a ?b; (case F => k_asm); (case N => k_asm); (case a => exact Eq.refl ScopeKind.function); (case b => exact Eq.refl (some NameKind.local)); k_whole); intro h_z tk_z F_z N_z; (try k_sweep)) | ((with_reducible show wpAny _ _ (spliced (backTo _ (starEach (PySem.Expr.Name _ _ :: _) _))) _ _ _); k_dflt (refine' sp_n ?F ?v ?_ ?a ?b (by decide); (case F => k_asm); (case v => exact Eq.refl (some _)); (case a => exact Eq.refl ScopeKind.function); (case b => exact Eq.refl (some NameKind.local)); k_whole)) | ((with_reducible show wpAny _ _ (spliced (backTo _ (starEach (PySem.Expr.Constant (PySem.Const.int _) _ _ :: _) _))) _ _ _); k_dflt (refine' sp_c ?_; k_whole)) | ((with_reducible show wpAny _ _ (binaryOp Operator.BitXor (Value.int _ _) (Value.int _ _)) _ _ _); k_dflt (refine' xor_to ?k2 ?_; (case k2 => assumption); k_whole); intro tq_z tkq_z) | ((with_reducible show wpAny _ _ (binaryOp Operator.Mult (Value.int _ _) (Value.int _ _)) _ _ _); k_dflt (refine' mul_to ?k1 ?k2 ?_; (case k2 => assumption); (case k1 => mul_fits); k_whole); intro tq_z tkq_z) | ((with_reducible show wpAny _ _ (binaryOp Operator.LShift (Value.int _ _) (Value.int _ _)) _ _ _); k_dflt (refine' shl_to ?k1 ?k2 ?k3 ?k4 ?_; (case k4 => assumption); (case k1 => omega); (case k2 => omega); (case k3 => omega); k_whole); intro tq_z tkq_z) | ((with_reducible show wpAny _ _ (binaryOp Operator.RShift (Value.int _ _) (Value.int _ _)) _ _ _); k_dflt (refine' shr_to ?k1 ?k2 ?_; (case k2 => assumption); (case k1 => omega); k_whole); intro tq_z tkq_z) | ((with_reducible show wpAny _ _ (binaryOp Operator.Mult (Value.ref _) (Value.int _ _)) _ _ _); k_dflt (refine' mul_rep ?k1 ?k2 ?k3 ?k4 ?k5 ?_; (case k1 => k_asm); (case k2 => k_asm); (case k3 => k_mem); (case k4 => omega); (case k5 => omega); k_whole); intro lq_z hq_z Fq_z Nq_z l1_z; (try k_lt l1_z); (try k_sweep)) | ((with_reducible show wpAny _ _ (setItem (Value.ref _) (Value.int _ _) _) _ _ _); k_dflt (refine' set_led ?k1 ?k2 ?k3 ?k4 ?k5 ?k6 ?_; (case k1 => k_asm); (case k2 => k_asm); (case k6 => k_upd); (case k3 => omega); (case k4 => omega); (case k5 => omega); k_whole); intro hq_z Fq_z Nq_z; (try k_sweep)) | ((with_reducible show wpAny _ _ (call (Value.ref _) [Value.int _ _, Value.int _ _, Value.int _ _]) _ _ _); k_dflt (refine' use_ih ?key ?k1 ?k2 ?k3 ?k4 ?kK ?k5 ?kU ?kf ?kc ?ka ?ki ?kn ?b1 ?b2 ?b3 ?kd ?ku ?_; (case key => assumption); (case k1 => k_asm); (case k2 => k_asm); (case k3 => k_asm); (case k4 => k_asm); (case kK => rfl); (case k5 => k_asm); (case kU => k_updF); (case kf => assumption); (case kc => assumption); (case ka => exact ⟨_, by assumption, by assumption⟩); (case ki => exact ⟨_, by assumption, by assumption⟩); (case kn => exact ⟨_, _, by assumption, by assumption⟩); (case b1 => exact ⟨by omega, by omega⟩); (case b2 => exact ⟨by omega, by omega, by omega, by omega⟩); (case b3 => omega); (case kd => ktr_room); (case ku => ktr_units); k_whole); intro hq_z tkq_z itsq_z ccq_z Fq_z Nq_z hIq_z; k_dflt (have hIsq_z := hIq_z.1); (try dsimp only at Nq_z); (try k_sweep)) | ((with_reducible show wpAny _ _ (callWith _ (Value.ref _) _ _ _) _ _ _); k_dflt (refine' callWith_F ?k1 ?_; (case k1 => exact fnAt_base (by k_asm) (by assumption)); k_whole)) | ((with_reducible show wpAny _ _ (eval (PySem.Expr.Name _ _) _) _ _ _); k_dflt (refine' nameX_base ?F ?c ?o ?d ?_ ?a ?b; (case a => rfl); (case b => rfl); (case F => k_asm); (case c => rfl); (case o => assumption); (case d => assumption); k_whole)) | ((with_reducible show wpAny _ _ (call (Value.builtin "len") [Value.ref _]) _ _ _); k_dflt (refine' len_led ?k1 ?k2 ?k3 ?k4 ?_; (case k1 => k_asm); (case k2 => k_mem); (case k3 => (first | exact Array.size_replicate | rfl)); (case k4 => (first | omega | decide)); k_whole); intro tq_z tkq_z; (try k_sweep)) | walk1 | ((with_reducible show FnAt _ _); k_dflt (exact fnAt_base (by k_asm) (by assumption)))) | (dsimp only; (first | ((with_reducible show wpAny _ _ (eval (PySem.Expr.Name _ _) _) _ _ _); k_dflt (refine' nameX_L ?F ?v ?_ ?a ?b (by decide); (case F => k_asm); (case v => exact Eq.refl (some _)); (case a => exact Eq.refl ScopeKind.function); (case b => exact Eq.refl (some NameKind.local)); k_whole)) | ((with_reducible show wpAny _ _ (eval (PySem.Expr.BinOp (PySem.Expr.Name _ _) _ (PySem.Expr.Name _ _) _) _) _ _ _); k_dflt (refine' bin_nn ?F ?v ?v2 ?_ ?a ?b ?b2 (by decide) (by decide); (case F => k_asm); (case v => exact Eq.refl (some _)); (case a => exact Eq.refl ScopeKind.function); (case b => exact Eq.refl (some NameKind.local)); (case v2 => exact Eq.refl (some _)); (case b2 => exact Eq.refl (some NameKind.local)); k_whole)) | ((with_reducible show wpAny _ _ (eval (PySem.Expr.BinOp (PySem.Expr.Name _ _) _ _ _) _) _ _ _); k_dflt (refine' bin_n ?F ?v ?_ ?a ?b (by decide); (case F => k_asm); (case v => exact Eq.refl (some _)); (case a => exact Eq.refl ScopeKind.function); (case b => exact Eq.refl (some NameKind.local)); k_whole)) | ((with_reducible show wpAny _ _ (execs (Stmt.Assign [PySem.Expr.Name _ _] _ _ :: _) _) _ _ _); k_dflt (refine' asg ?_; k_whole)) | ((with_reducible show wpAny _ _ (storeName _ _ _) _ _ _); k_dflt (refine' st_tk ?F ?N ?_ ?a ?b; (case F => k_asm); (case N => k_asm); (case a => exact Eq.refl ScopeKind.function); (case b => exact Eq.refl (some NameKind.local)); k_whole); intro h_z tk_z F_z N_z; (try k_sweep)) | ((with_reducible show wpAny _ _ (spliced (backTo _ (starEach (PySem.Expr.Name _ _ :: _) _))) _ _ _); k_dflt (refine' sp_n ?F ?v ?_ ?a ?b (by decide); (case F => k_asm); (case v => exact Eq.refl (some _)); (case a => exact Eq.refl ScopeKind.function); (case b => exact Eq.refl (some NameKind.local)); k_whole)) | ((with_reducible show wpAny _ _ (spliced (backTo _ (starEach (PySem.Expr.Constant (PySem.Const.int _) _ _ :: _) _))) _ _ _); k_dflt (refine' sp_c ?_; k_whole)) | ((with_reducible show wpAny _ _ (binaryOp Operator.BitXor (Value.int _ _) (Value.int _ _)) _ _ _); k_dflt (refine' xor_to ?k2 ?_; (case k2 => assumption); k_whole); intro tq_z tkq_z) | ((with_reducible show wpAny _ _ (binaryOp Operator.Mult (Value.int _ _) (Value.int _ _)) _ _ _); k_dflt (refine' mul_to ?k1 ?k2 ?_; (case k2 => assumption); (case k1 => mul_fits); k_whole); intro tq_z tkq_z) | ((with_reducible show wpAny _ _ (binaryOp Operator.LShift (Value.int _ _) (Value.int _ _)) _ _ _); k_dflt (refine' shl_to ?k1 ?k2 ?k3 ?k4 ?_; (case k4 => assumption); (case k1 => omega); (case k2 => omega); (case k3 => omega); k_whole); intro tq_z tkq_z) | ((with_reducible show wpAny _ _ (binaryOp Operator.RShift (Value.int _ _) (Value.int _ _)) _ _ _); k_dflt (refine' shr_to ?k1 ?k2 ?_; (case k2 => assumption); (case k1 => omega); k_whole); intro tq_z tkq_z) | ((with_reducible show wpAny _ _ (binaryOp Operator.Mult (Value.ref _) (Value.int _ _)) _ _ _); k_dflt (refine' mul_rep ?k1 ?k2 ?k3 ?k4 ?k5 ?_; (case k1 => k_asm); (case k2 => k_asm); (case k3 => k_mem); (case k4 => omega); (case k5 => omega); k_whole); intro lq_z hq_z Fq_z Nq_z l1_z; (try k_lt l1_z); (try k_sweep)) | ((with_reducible show wpAny _ _ (setItem (Value.ref _) (Value.int _ _) _) _ _ _); k_dflt (refine' set_led ?k1 ?k2 ?k3 ?k4 ?k5 ?k6 ?_; (case k1 => k_asm); (case k2 => k_asm); (case k6 => k_upd); (case k3 => omega); (case k4 => omega); (case k5 => omega); k_whole); intro hq_z Fq_z Nq_z; (try k_sweep)) | ((with_reducible show wpAny _ _ (call (Value.ref _) [Value.int _ _, Value.int _ _, Value.int _ _]) _ _ _); k_dflt (refine' use_ih ?key ?k1 ?k2 ?k3 ?k4 ?kK ?k5 ?kU ?kf ?kc ?ka ?ki ?kn ?b1 ?b2 ?b3 ?kd ?ku ?_; (case key => assumption); (case k1 => k_asm); (case k2 => k_asm); (case k3 => k_asm); (case k4 => k_asm); (case kK => rfl); (case k5 => k_asm); (case kU => k_updF); (case kf => assumption); (case kc => assumption); (case ka => exact ⟨_, by assumption, by assumption⟩); (case ki => exact ⟨_, by assumption, by assumption⟩); (case kn => exact ⟨_, _, by assumption, by assumption⟩); (case b1 => exact ⟨by omega, by omega⟩); (case b2 => exact ⟨by omega, by omega, by omega, by omega⟩); (case b3 => omega); (case kd => ktr_room); (case ku => ktr_units); k_whole); intro hq_z tkq_z itsq_z ccq_z Fq_z Nq_z hIq_z; k_dflt (have hIsq_z := hIq_z.1); (try dsimp only at Nq_z); (try k_sweep)) | ((with_reducible show wpAny _ _ (callWith _ (Value.ref _) _ _ _) _ _ _); k_dflt (refine' callWith_F ?k1 ?_; (case k1 => exact fnAt_base (by k_asm) (by assumption)); k_whole)) | ((with_reducible show wpAny _ _ (eval (PySem.Expr.Name _ _) _) _ _ _); k_dflt (refine' nameX_base ?F ?c ?o ?d ?_ ?a ?b; (case a => rfl); (case b => rfl); (case F => k_asm); (case c => rfl); (case o => assumption); (case d => assumption); k_whole)) | ((with_reducible show wpAny _ _ (call (Value.builtin "len") [Value.ref _]) _ _ _); k_dflt (refine' len_led ?k1 ?k2 ?k3 ?k4 ?_; (case k1 => k_asm); (case k2 => k_mem); (case k3 => (first | exact Array.size_replicate | rfl)); (case k4 => (first | omega | decide)); k_whole); intro tq_z tkq_z; (try k_sweep)) | walk1 | ((with_reducible show FnAt _ _); k_dflt (exact fnAt_base (by k_asm) (by assumption))))) | (leave1; walk_say "STEP leave1"; (try dsimp only)) | fail "no step"))
        (rename News _ _ _ _ => N9)
        (rename Fr _ _ _ _ => F9)
        refine' hret _ _ _ (fun b o hb e => F9.keep b o (by rw [hg']; exact hideAll_get _ e hb)) ⟨tabs_cold8 TB N9 hg' (by k_mem) (by k_mem) (by k_mem) ?mc hc8 ?w1 ?w2 ?w3 ?w4, ret_list N9 hg' (by k_mem) ?w5 ?w6⟩
        case mc => k_mem
        case w1 => (simp only [tail4, List.map_cons, List.map_nil, List.mem_cons, List.not_mem_nil, or_false, not_or]; exact ⟨neN (by omega), neN (by omega), neN (by omega), neN (by omega)⟩)
        case w2 => exact neN (by omega)
        case w3 => exact neN (by omega)
        case w4 => (rename (_ = some (Value.str _ _)) => hv9; exact ⟨_, _, by assumption, by rw [qual8 rfl] at hv9; exact hv9⟩)
        case w5 => (simp only [tail4, List.map_cons, List.map_nil, List.mem_cons, List.not_mem_nil, or_false, not_or]; exact ⟨neN (by omega), neN (by omega), neN (by omega), neN (by omega)⟩)
        case w6 => exact digs_ints (by rw [Array.size_replicate]; rfl) I9
      case key => exact inner_key rfl h2 h3 _ _ _ _ _ _ _ _ _ _ _
    · (rename News _ _ _ _ => N9)
      (rename Fr _ _ _ _ => F9)
      have ha0 : a = 0 := by omega
      have hk4 := hk3 ha0
      refine' hret _ _ _ (fun b o hb e => F9.keep b o (by rw [hg']; exact hideAll_get _ e hb)) ⟨tabs_cold8 TB N9 hg' (by k_mem) (by k_mem) (by k_mem) ?mc hc8 ?w1 ?w2 ?w3 ?w4, ret_list N9 hg' (by k_mem) ?w5 ?w6⟩
      case mc => k_mem
      case w1 => (simp only [tail4, List.map_cons, List.map_nil, List.mem_cons, List.not_mem_nil, or_false, not_or]; exact ⟨neN (by omega), neN (by omega), neN (by omega), neN (by omega)⟩)
      case w2 => exact neN (by omega)
      case w3 => exact neN (by omega)
      case w4 => (rename (_ = some (Value.str _ _)) => hv9; exact ⟨_, _, by assumption, by rw [qual8 rfl] at hv9; exact hv9⟩)
      case w5 => (simp only [tail4, List.map_cons, List.map_nil, List.mem_cons, List.not_mem_nil, or_false, not_or]; exact ⟨neN (by omega), neN (by omega), neN (by omega), neN (by omega)⟩)
      case w6 => exact digs_zero hk4
  · subst ht8
    k_dflt ((refine' enterC ?k1 ?k2 ?k3 ?k4 ?k5 ?kA ?kF ?kK ?k6 ?k7 ?k8 ?k9 ?kB ?kC ?_ ?c2 ?c3 ?c4; (case kA => exact rfl); (case kF => exact rfl); (case kK => assumption); (case k1 => k_asm); (case k2 => k_asm); (case k3 => k_asm); (case k4 => k_asm); (case k5 => k_asm); (case k6 => k_is); (case k7 => k_is); (case k8 => ktr_room); (case k9 => exact BindsTo.of_eq rfl); (case kB => exact rfl); (case kC => decide); (case c2 => exact rfl); (case c3 => exact rfl); (case c4 => exact rfl); k_whole))
    intro g' L' h' tk' cells' hg' F' N' Y' B' X' T' l0'
    k_cells Y'
    have l0 := l0'
    k_lt l0
    simp only [tail4, List.cons_append, List.nil_append] at N'
    have hc5n : @Ne Nat c5 58 := TB.c5n
    have hc8n : @Ne Nat c8 58 := hc8
    obtain ⟨vs8, t8', hcd1, hcd2⟩ := hcode
    have codeHd : CodeHd g' 62 58 := codeHd_of_K X' (by kernel_rfl)
    (try dsimp only)
    (try k_fold)
    (repeat' (first | (k_unfold; (try dsimp only)) | (k_end; kc_close) | (first | ((with_reducible show wpAny _ _ (eval (PySem.Expr.Name _ _) _) _ _ _); k_dflt (refine' nameX_L ?F ?v ?_ ?a ?b (by decide); (case F => k_asm); (case v => exact Eq.refl (some _)); (case a => exact Eq.refl ScopeKind.function); (case b => exact Eq.refl (some NameKind.local)); k_whole)) | ((with_reducible show wpAny _ _ (eval (PySem.Expr.BinOp (PySem.Expr.Name _ _) _ (PySem.Expr.Name _ _) _) _) _ _ _); k_dflt (refine' bin_nn ?F ?v ?v2 ?_ ?a ?b ?b2 (by decide) (by decide); (case F => k_asm); (case v => exact Eq.refl (some _)); (case a => exact Eq.refl ScopeKind.function); (case b => exact Eq.refl (some NameKind.local)); (case v2 => exact Eq.refl (some _)); (case b2 => exact Eq.refl (some NameKind.local)); k_whole)) | ((with_reducible show wpAny _ _ (eval (PySem.Expr.BinOp (PySem.Expr.Name _ _) _ _ _) _) _ _ _); k_dflt (refine' bin_n ?F ?v ?_ ?a ?b (by decide); (case F => k_asm); (case v => exact Eq.refl (some _)); (case a => exact Eq.refl ScopeKind.function); (case b => exact Eq.refl (some NameKind.local)); k_whole)) | ((with_reducible show wpAny _ _ (execs (Stmt.Assign [PySem.Expr.Name _ _] _ _ :: _) _) _ _ _); k_dflt (refine' asg ?_; k_whole)) | ((with_reducible show wpAny _ _ (storeName _ _ _) _ _ _); k_dflt (refine' st_tk ?F ?N ?_ ?a ?b; (case F => k_asm); (case N => k_asm); (case a => exact Eq.refl ScopeKind.function); (case b => exact Eq.refl (some NameKind.local)); k_whole); intro h_z tk_z F_z N_z; (try k_sweep)) | ((with_reducible show wpAny _ _ (spliced (backTo _ (starEach (PySem.Expr.Name _ _ :: _) _))) _ _ _); k_dflt (refine' sp_n ?F ?v ?_ ?a ?b (by decide); (case F => k_asm); (case v => exact Eq.refl (some _)); (case a => exact Eq.refl ScopeKind.function); (case b => exact Eq.refl (some NameKind.local)); k_whole)) | ((with_reducible show wpAny _ _ (spliced (backTo _ (starEach (PySem.Expr.Constant (PySem.Const.int _) _ _ :: _) _))) _ _ _); k_dflt (refine' sp_c ?_; k_whole)) | ((with_reducible show wpAny _ _ (binaryOp Operator.BitXor (Value.int _ _) (Value.int _ _)) _ _ _); k_dflt (refine' xor_to ?k2 ?_; (case k2 => assumption); k_whole); intro tq_z tkq_z) | ((with_reducible show wpAny _ _ (binaryOp Operator.Mult (Value.int _ _) (Value.int _ _)) _ _ _); k_dflt (refine' mul_to ?k1 ?k2 ?_; (case k2 => assumption); (case k1 => mul_fits); k_whole); intro tq_z tkq_z) | ((with_reducible show wpAny _ _ (binaryOp Operator.LShift (Value.int _ _) (Value.int _ _)) _ _ _); k_dflt (refine' shl_to ?k1 ?k2 ?k3 ?k4 ?_; (case k4 => assumption); (case k1 => omega); (case k2 => omega); (case k3 => omega); k_whole); intro tq_z tkq_z) | ((with_reducible show wpAny _ _ (binaryOp Operator.RShift (Value.int _ _) (Value.int _ _)) _ _ _); k_dflt (refine' shr_to ?k1 ?k2 ?_; (case k2 => assumption); (case k1 => omega); k_whole); intro tq_z tkq_z) | ((with_reducible show wpAny _ _ (binaryOp Operator.Mult (Value.ref _) (Value.int _ _)) _ _ _); k_dflt (refine' mul_rep ?k1 ?k2 ?k3 ?k4 ?k5 ?_; (case k1 => k_asm); (case k2 => k_asm); (case k3 => k_mem); (case k4 => omega); (case k5 => omega); k_whole); intro lq_z hq_z Fq_z Nq_z l1_z; (try k_lt l1_z); (try k_sweep)) | ((with_reducible show wpAny _ _ (setItem (Value.ref _) (Value.int _ _) _) _ _ _); k_dflt (refine' set_led ?k1 ?k2 ?k3 ?k4 ?k5 ?k6 ?_; (case k1 => k_asm); (case k2 => k_asm); (case k6 => k_upd); (case k3 => omega); (case k4 => omega); (case k5 => omega); k_whole); intro hq_z Fq_z Nq_z; (try k_sweep)) | ((with_reducible show wpAny _ _ (call (Value.ref _) [Value.int _ _, Value.int _ _, Value.int _ _]) _ _ _); k_dflt (refine' use_ih ?key ?k1 ?k2 ?k3 ?k4 ?kK ?k5 ?kU ?kf ?kc ?ka ?ki ?kn ?b1 ?b2 ?b3 ?kd ?ku ?_; (case key => assumption); (case k1 => k_asm); (case k2 => k_asm); (case k3 => k_asm); (case k4 => k_asm); (case kK => rfl); (case k5 => k_asm); (case kU => k_updF); (case kf => assumption); (case kc => assumption); (case ka => exact ⟨_, by assumption, by assumption⟩); (case ki => exact ⟨_, by assumption, by assumption⟩); (case kn => exact ⟨_, _, by assumption, by assumption⟩); (case b1 => exact ⟨by omega, by omega⟩); (case b2 => exact ⟨by omega, by omega, by omega, by omega⟩); (case b3 => omega); (case kd => ktr_room); (case ku => ktr_units); k_whole); intro hq_z tkq_z itsq_z ccq_z Fq_z Nq_z hIq_z; k_dflt (have hIsq_z := hIq_z.1); (try dsimp only at Nq_z); (try k_sweep)) | ((with_reducible show wpAny _ _ (callWith _ (Value.ref _) _ _ _) _ _ _); k_dflt (refine' callWith_F ?k1 ?_; (case k1 => exact fnAt_base (by k_asm) (by assumption)); k_whole)) | ((with_reducible show wpAny _ _ (eval (PySem.Expr.Name _ _) _) _ _ _); k_dflt (refine' nameX_base ?F ?c ?o ?d ?_ ?a ?b; (case a => rfl); (case b => rfl); (case F => k_asm); (case c => rfl); (case o => assumption); (case d => assumption); k_whole)) | ((with_reducible show wpAny _ _ (call (Value.builtin "len") [Value.ref _]) _ _ _); k_dflt (refine' len_led ?k1 ?k2 ?k3 ?k4 ?_; (case k1 => k_asm); (case k2 => k_mem); (case k3 => (first | exact Array.size_replicate | rfl)); (case k4 => (first | omega | decide)); k_whole); intro tq_z tkq_z; (try k_sweep)) | walk1 | ((with_reducible show FnAt _ _); k_dflt (exact fnAt_base (by k_asm) (by assumption)))) | (dsimp only; (first | ((with_reducible show wpAny _ _ (eval (PySem.Expr.Name _ _) _) _ _ _); k_dflt (refine' nameX_L ?F ?v ?_ ?a ?b (by decide); (case F => k_asm); (case v => exact Eq.refl (some _)); (case a => exact Eq.refl ScopeKind.function); (case b => exact Eq.refl (some NameKind.local)); k_whole)) | ((with_reducible show wpAny _ _ (eval (PySem.Expr.BinOp (PySem.Expr.Name _ _) _ (PySem.Expr.Name _ _) _) _) _ _ _); k_dflt (refine' bin_nn ?F ?v ?v2 ?_ ?a ?b ?b2 (by decide) (by decide); (case F => k_asm); (case v => exact Eq.refl (some _)); (case a => exact Eq.refl ScopeKind.function); (case b => exact Eq.refl (some NameKind.local)); (case v2 => exact Eq.refl (some _)); (case b2 => exact Eq.refl (some NameKind.local)); k_whole)) | ((with_reducible show wpAny _ _ (eval (PySem.Expr.BinOp (PySem.Expr.Name _ _) _ _ _) _) _ _ _); k_dflt (refine' bin_n ?F ?v ?_ ?a ?b (by decide); (case F => k_asm); (case v => exact Eq.refl (some _)); (case a => exact Eq.refl ScopeKind.function); (case b => exact Eq.refl (some NameKind.local)); k_whole)) | ((with_reducible show wpAny _ _ (execs (Stmt.Assign [PySem.Expr.Name _ _] _ _ :: _) _) _ _ _); k_dflt (refine' asg ?_; k_whole)) | ((with_reducible show wpAny _ _ (storeName _ _ _) _ _ _); k_dflt (refine' st_tk ?F ?N ?_ ?a ?b; (case F => k_asm); (case N => k_asm); (case a => exact Eq.refl ScopeKind.function); (case b => exact Eq.refl (some NameKind.local)); k_whole); intro h_z tk_z F_z N_z; (try k_sweep)) | ((with_reducible show wpAny _ _ (spliced (backTo _ (starEach (PySem.Expr.Name _ _ :: _) _))) _ _ _); k_dflt (refine' sp_n ?F ?v ?_ ?a ?b (by decide); (case F => k_asm); (case v => exact Eq.refl (some _)); (case a => exact Eq.refl ScopeKind.function); (case b => exact Eq.refl (some NameKind.local)); k_whole)) | ((with_reducible show wpAny _ _ (spliced (backTo _ (starEach (PySem.Expr.Constant (PySem.Const.int _) _ _ :: _) _))) _ _ _); k_dflt (refine' sp_c ?_; k_whole)) | ((with_reducible show wpAny _ _ (binaryOp Operator.BitXor (Value.int _ _) (Value.int _ _)) _ _ _); k_dflt (refine' xor_to ?k2 ?_; (case k2 => assumption); k_whole); intro tq_z tkq_z) | ((with_reducible show wpAny _ _ (binaryOp Operator.Mult (Value.int _ _) (Value.int _ _)) _ _ _); k_dflt (refine' mul_to ?k1 ?k2 ?_; (case k2 => assumption); (case k1 => mul_fits); k_whole); intro tq_z tkq_z) | ((with_reducible show wpAny _ _ (binaryOp Operator.LShift (Value.int _ _) (Value.int _ _)) _ _ _); k_dflt (refine' shl_to ?k1 ?k2 ?k3 ?k4 ?_; (case k4 => assumption); (case k1 => omega); (case k2 => omega); (case k3 => omega); k_whole); intro tq_z tkq_z) | ((with_reducible show wpAny _ _ (binaryOp Operator.RShift (Value.int _ _) (Value.int _ _)) _ _ _); k_dflt (refine' shr_to ?k1 ?k2 ?_; (case k2 => assumption); (case k1 => omega); k_whole); intro tq_z tkq_z) | ((with_reducible show wpAny _ _ (binaryOp Operator.Mult (Value.ref _) (Value.int _ _)) _ _ _); k_dflt (refine' mul_rep ?k1 ?k2 ?k3 ?k4 ?k5 ?_; (case k1 => k_asm); (case k2 => k_asm); (case k3 => k_mem); (case k4 => omega); (case k5 => omega); k_whole); intro lq_z hq_z Fq_z Nq_z l1_z; (try k_lt l1_z); (try k_sweep)) | ((with_reducible show wpAny _ _ (setItem (Value.ref _) (Value.int _ _) _) _ _ _); k_dflt (refine' set_led ?k1 ?k2 ?k3 ?k4 ?k5 ?k6 ?_; (case k1 => k_asm); (case k2 => k_asm); (case k6 => k_upd); (case k3 => omega); (case k4 => omega); (case k5 => omega); k_whole); intro hq_z Fq_z Nq_z; (try k_sweep)) | ((with_reducible show wpAny _ _ (call (Value.ref _) [Value.int _ _, Value.int _ _, Value.int _ _]) _ _ _); k_dflt (refine' use_ih ?key ?k1 ?k2 ?k3 ?k4 ?kK ?k5 ?kU ?kf ?kc ?ka ?ki ?kn ?b1 ?b2 ?b3 ?kd ?ku ?_; (case key => assumption); (case k1 => k_asm); (case k2 => k_asm); (case k3 => k_asm); (case k4 => k_asm); (case kK => rfl); (case k5 => k_asm); (case kU => k_updF); (case kf => assumption); (case kc => assumption); (case ka => exact ⟨_, by assumption, by assumption⟩); (case ki => exact ⟨_, by assumption, by assumption⟩); (case kn => exact ⟨_, _, by assumption, by assumption⟩); (case b1 => exact ⟨by omega, by omega⟩); (case b2 => exact ⟨by omega, by omega, by omega, by omega⟩); (case b3 => omega); (case kd => ktr_room); (case ku => ktr_units); k_whole); intro hq_z tkq_z itsq_z ccq_z Fq_z Nq_z hIq_z; k_dflt (have hIsq_z := hIq_z.1); (try dsimp only at Nq_z); (try k_sweep)) | ((with_reducible show wpAny _ _ (callWith _ (Value.ref _) _ _ _) _ _ _); k_dflt (refine' callWith_F ?k1 ?_; (case k1 => exact fnAt_base (by k_asm) (by assumption)); k_whole)) | ((with_reducible show wpAny _ _ (eval (PySem.Expr.Name _ _) _) _ _ _); k_dflt (refine' nameX_base ?F ?c ?o ?d ?_ ?a ?b; (case a => rfl); (case b => rfl); (case F => k_asm); (case c => rfl); (case o => assumption); (case d => assumption); k_whole)) | ((with_reducible show wpAny _ _ (call (Value.builtin "len") [Value.ref _]) _ _ _); k_dflt (refine' len_led ?k1 ?k2 ?k3 ?k4 ?_; (case k1 => k_asm); (case k2 => k_mem); (case k3 => (first | exact Array.size_replicate | rfl)); (case k4 => (first | omega | decide)); k_whole); intro tq_z tkq_z; (try k_sweep)) | walk1 | ((with_reducible show FnAt _ _); k_dflt (exact fnAt_base (by k_asm) (by assumption))))) | (leave1; walk_say "STEP leave1"; (try dsimp only)) | fail "no step"))
    · (rename News _ _ _ _ => NL)
      (rename Fr _ _ _ _ => FL)
      refine' use_inner (ca := L' + 1 + 1) (ci := L' + 1 + 1 + 1) (cnn := L' + 1) (n := n) ?key B' FL X' T' rfl NL ?kU ?kf ?kc ?ka ?ki ?kn ?b1 ?b2 rfl ?hd ?hu ?ret
      case kf => exact News.get NL (by k_mem)
      case kc => exact codeRec_news NL (by k_mem) hcd1 (by rw [qual8 rfl]; exact hcd2)
      case ka => (refine' ⟨_, News.get NL ?m1, ?m2⟩; (case m1 => k_mem); (case m2 => assumption))
      case ki => (refine' ⟨_, News.get NL ?m1, ?m2⟩; (case m1 => k_mem); (case m2 => assumption))
      case kn => (refine' ⟨_, _, News.get NL ?m1, ?m2⟩; (case m1 => k_mem); (case m2 => assumption))
      case kU => k_updF
      case b1 => exact ⟨h0, by omega⟩
      case b2 => (have := hk2 (by assumption); rw [Array.size_replicate]; exact ⟨by omega, by omega, by omega, by omega⟩)
      case hd => ktr_room
      case hu => ktr_units
      case ret =>
        intro h9 tk9 its9 cc9 F9 N9 I9
        (try dsimp only at N9)
        clear FL NL
        (repeat' (first | (k_unfold; (try dsimp only)) | (k_end; kc_close) | (first | ((with_reducible show wpAny _ _ (eval (PySem.Expr.Name _ _) _) _ _ _); k_dflt (refine' nameX_L ?F ?v ?_ ?a ?b (by decide); (case F => k_asm); (case v => exact Eq.refl (some _)); (case a => exact Eq.refl ScopeKind.function); (case b => exact Eq.refl (some NameKind.local)); k_whole)) | ((with_reducible show wpAny _ _ (eval (PySem.Expr.BinOp (PySem.Expr.Name _ _) _ (PySem.Expr.Name _ _) _) _) _ _ _); k_dflt (refine' bin_nn ?F ?v ?v2 ?_ ?a ?b ?b2 (by decide) (by decide); (case F => k_asm); (case v => exact Eq.refl (some _)); (case a => exact Eq.refl ScopeKind.function); (case b => exact Eq.refl (some NameKind.local)); (case v2 => exact Eq.refl (some _)); (case b2 => exact Eq.refl (some NameKind.local)); k_whole)) | ((with_reducible show wpAny _ _ (eval (PySem.Expr.BinOp (PySem.Expr.Name _ _) _ _ _) _) _ _ _); k_dflt (refine' bin_n ?F ?v ?_ ?a ?b (by decide); (case F => k_asm); (case v => exact Eq.refl (some _)); (case a => exact Eq.refl ScopeKind.function); (case b => exact Eq.refl (some NameKind.local)); k_whole)) | ((with_reducible show wpAny _ _ (execs (Stmt.Assign [PySem.Expr.Name _ _] _ _ :: _) _) _ _ _); k_dflt (refine' asg ?_; k_whole)) | ((with_reducible show wpAny _ _ (storeName _ _ _) _ _ _); k_dflt (refine' st_tk ?F ?N ?_ ?a ?b; (case F => k_asm); (case N => k_asm); (case a => exact Eq.refl ScopeKind.function); (case b => exact Eq.refl (some NameKind.local)); k_whole); intro h_z tk_z F_z N_z; (try k_sweep)) | ((with_reducible show wpAny _ _ (spliced (backTo _ (starEach (PySem.Expr.Name _ _ :: _) _))) _ _ _); k_dflt (refine' sp_n ?F ?v ?_ ?a ?b (by decide); (case F => k_asm); (case v => exact Eq.refl (some _)); (case a => exact Eq.refl ScopeKind.function); (case b => exact Eq.refl (some NameKind.local)); k_whole)) | ((with_reducible show wpAny _ _ (spliced (backTo _ (starEach (PySem.Expr.Constant (PySem.Const.int _) _ _ :: _) _))) _ _ _); k_dflt (refine' sp_c ?_; k_whole)) | ((with_reducible show wpAny _ _ (binaryOp Operator.BitXor (Value.int _ _) (Value.int _ _)) _ _ _); k_dflt (refine' xor_to ?k2 ?_; (case k2 => assumption); k_whole); intro tq_z tkq_z) | ((with_reducible show wpAny _ _ (binaryOp Operator.Mult (Value.int _ _) (Value.int _ _)) _ _ _); k_dflt (refine' mul_to ?k1 ?k2 ?_; (case k2 => assumption); (case k1 => mul_fits); k_whole); intro tq_z tkq_z) | ((with_reducible show wpAny _ _ (binaryOp Operator.LShift (Value.int _ _) (Value.int _ _)) _ _ _); k_dflt (refine' shl_to ?k1 ?k2 ?k3 ?k4 ?_; (case k4 => assumption); (case k1 => omega); (case k2 => omega); (case k3 => omega); k_whole); intro tq_z tkq_z) | ((with_reducible show wpAny _ _ (binaryOp Operator.RShift (Value.int _ _) (Value.int _ _)) _ _ _); k_dflt (refine' shr_to ?k1 ?k2 ?_; (case k2 => assumption); (case k1 => omega); k_whole); intro tq_z tkq_z) | ((with_reducible show wpAny _ _ (binaryOp Operator.Mult (Value.ref _) (Value.int _ _)) _ _ _); k_dflt (refine' mul_rep ?k1 ?k2 ?k3 ?k4 ?k5 ?_; (case k1 => k_asm); (case k2 => k_asm); (case k3 => k_mem); (case k4 => omega); (case k5 => omega); k_whole); intro lq_z hq_z Fq_z Nq_z l1_z; (try k_lt l1_z); (try k_sweep)) | ((with_reducible show wpAny _ _ (setItem (Value.ref _) (Value.int _ _) _) _ _ _); k_dflt (refine' set_led ?k1 ?k2 ?k3 ?k4 ?k5 ?k6 ?_; (case k1 => k_asm); (case k2 => k_asm); (case k6 => k_upd); (case k3 => omega); (case k4 => omega); (case k5 => omega); k_whole); intro hq_z Fq_z Nq_z; (try k_sweep)) | ((with_reducible show wpAny _ _ (call (Value.ref _) [Value.int _ _, Value.int _ _, Value.int _ _]) _ _ _); k_dflt (refine' use_ih ?key ?k1 ?k2 ?k3 ?k4 ?kK ?k5 ?kU ?kf ?kc ?ka ?ki ?kn ?b1 ?b2 ?b3 ?kd ?ku ?_; (case key => assumption); (case k1 => k_asm); (case k2 => k_asm); (case k3 => k_asm); (case k4 => k_asm); (case kK => rfl); (case k5 => k_asm); (case kU => k_updF); (case kf => assumption); (case kc => assumption); (case ka => exact ⟨_, by assumption, by assumption⟩); (case ki => exact ⟨_, by assumption, by assumption⟩); (case kn => exact ⟨_, _, by assumption, by assumption⟩); (case b1 => exact ⟨by omega, by omega⟩); (case b2 => exact ⟨by omega, by omega, by omega, by omega⟩); (case b3 => omega); (case kd => ktr_room); (case ku => ktr_units); k_whole); intro hq_z tkq_z itsq_z ccq_z Fq_z Nq_z hIq_z; k_dflt (have hIsq_z := hIq_z.1); (try dsimp only at Nq_z); (try k_sweep)) | ((with_reducible show wpAny _ _ (callWith _ (Value.ref _) _ _ _) _ _ _); k_dflt (refine' callWith_F ?k1 ?_; (case k1 => exact fnAt_base (by k_asm) (by assumption)); k_whole)) | ((with_reducible show wpAny _ _ (eval (PySem.Expr.Name _ _) _) _ _ _); k_dflt (refine' nameX_base ?F ?c ?o ?d ?_ ?a ?b; (case a => rfl); (case b => rfl); (case F => k_asm); (case c => rfl); (case o => assumption); (case d => assumption); k_whole)) | ((with_reducible show wpAny _ _ (call (Value.builtin "len") [Value.ref _]) _ _ _); k_dflt (refine' len_led ?k1 ?k2 ?k3 ?k4 ?_; (case k1 => k_asm); (case k2 => k_mem); (case k3 => (first | exact Array.size_replicate | rfl)); (case k4 => (first | omega | decide)); k_whole); intro tq_z tkq_z; (try k_sweep)) | walk1 | ((with_reducible show FnAt _ _); k_dflt (exact fnAt_base (by k_asm) (by assumption)))) | (dsimp only; (first | ((with_reducible show wpAny _ _ (eval (PySem.Expr.Name _ _) _) _ _ _); k_dflt (refine' nameX_L ?F ?v ?_ ?a ?b (by decide); (case F => k_asm); (case v => exact Eq.refl (some _)); (case a => exact Eq.refl ScopeKind.function); (case b => exact Eq.refl (some NameKind.local)); k_whole)) | ((with_reducible show wpAny _ _ (eval (PySem.Expr.BinOp (PySem.Expr.Name _ _) _ (PySem.Expr.Name _ _) _) _) _ _ _); k_dflt (refine' bin_nn ?F ?v ?v2 ?_ ?a ?b ?b2 (by decide) (by decide); (case F => k_asm); (case v => exact Eq.refl (some _)); (case a => exact Eq.refl ScopeKind.function); (case b => exact Eq.refl (some NameKind.local)); (case v2 => exact Eq.refl (some _)); (case b2 => exact Eq.refl (some NameKind.local)); k_whole)) | ((with_reducible show wpAny _ _ (eval (PySem.Expr.BinOp (PySem.Expr.Name _ _) _ _ _) _) _ _ _); k_dflt (refine' bin_n ?F ?v ?_ ?a ?b (by decide); (case F => k_asm); (case v => exact Eq.refl (some _)); (case a => exact Eq.refl ScopeKind.function); (case b => exact Eq.refl (some NameKind.local)); k_whole)) | ((with_reducible show wpAny _ _ (execs (Stmt.Assign [PySem.Expr.Name _ _] _ _ :: _) _) _ _ _); k_dflt (refine' asg ?_; k_whole)) | ((with_reducible show wpAny _ _ (storeName _ _ _) _ _ _); k_dflt (refine' st_tk ?F ?N ?_ ?a ?b; (case F => k_asm); (case N => k_asm); (case a => exact Eq.refl ScopeKind.function); (case b => exact Eq.refl (some NameKind.local)); k_whole); intro h_z tk_z F_z N_z; (try k_sweep)) | ((with_reducible show wpAny _ _ (spliced (backTo _ (starEach (PySem.Expr.Name _ _ :: _) _))) _ _ _); k_dflt (refine' sp_n ?F ?v ?_ ?a ?b (by decide); (case F => k_asm); (case v => exact Eq.refl (some _)); (case a => exact Eq.refl ScopeKind.function); (case b => exact Eq.refl (some NameKind.local)); k_whole)) | ((with_reducible show wpAny _ _ (spliced (backTo _ (starEach (PySem.Expr.Constant (PySem.Const.int _) _ _ :: _) _))) _ _ _); k_dflt (refine' sp_c ?_; k_whole)) | ((with_reducible show wpAny _ _ (binaryOp Operator.BitXor (Value.int _ _) (Value.int _ _)) _ _ _); k_dflt (refine' xor_to ?k2 ?_; (case k2 => assumption); k_whole); intro tq_z tkq_z) | ((with_reducible show wpAny _ _ (binaryOp Operator.Mult (Value.int _ _) (Value.int _ _)) _ _ _); k_dflt (refine' mul_to ?k1 ?k2 ?_; (case k2 => assumption); (case k1 => mul_fits); k_whole); intro tq_z tkq_z) | ((with_reducible show wpAny _ _ (binaryOp Operator.LShift (Value.int _ _) (Value.int _ _)) _ _ _); k_dflt (refine' shl_to ?k1 ?k2 ?k3 ?k4 ?_; (case k4 => assumption); (case k1 => omega); (case k2 => omega); (case k3 => omega); k_whole); intro tq_z tkq_z) | ((with_reducible show wpAny _ _ (binaryOp Operator.RShift (Value.int _ _) (Value.int _ _)) _ _ _); k_dflt (refine' shr_to ?k1 ?k2 ?_; (case k2 => assumption); (case k1 => omega); k_whole); intro tq_z tkq_z) | ((with_reducible show wpAny _ _ (binaryOp Operator.Mult (Value.ref _) (Value.int _ _)) _ _ _); k_dflt (refine' mul_rep ?k1 ?k2 ?k3 ?k4 ?k5 ?_; (case k1 => k_asm); (case k2 => k_asm); (case k3 => k_mem); (case k4 => omega); (case k5 => omega); k_whole); intro lq_z hq_z Fq_z Nq_z l1_z; (try k_lt l1_z); (try k_sweep)) | ((with_reducible show wpAny _ _ (setItem (Value.ref _) (Value.int _ _) _) _ _ _); k_dflt (refine' set_led ?k1 ?k2 ?k3 ?k4 ?k5 ?k6 ?_; (case k1 => k_asm); (case k2 => k_asm); (case k6 => k_upd); (case k3 => omega); (case k4 => omega); (case k5 => omega); k_whole); intro hq_z Fq_z Nq_z; (try k_sweep)) | ((with_reducible show wpAny _ _ (call (Value.ref _) [Value.int _ _, Value.int _ _, Value.int _ _]) _ _ _); k_dflt (refine' use_ih ?key ?k1 ?k2 ?k3 ?k4 ?kK ?k5 ?kU ?kf ?kc ?ka ?ki ?kn ?b1 ?b2 ?b3 ?kd ?ku ?_; (case key => assumption); (case k1 => k_asm); (case k2 => k_asm); (case k3 => k_asm); (case k4 => k_asm); (case kK => rfl); (case k5 => k_asm); (case kU => k_updF); (case kf => assumption); (case kc => assumption); (case ka => exact ⟨_, by assumption, by assumption⟩); (case ki => exact ⟨_, by assumption, by assumption⟩); (case kn => exact ⟨_, _, by assumption, by assumption⟩); (case b1 => exact ⟨by omega, by omega⟩); (case b2 => exact ⟨by omega, by omega, by omega, by omega⟩); (case b3 => omega); (case kd => ktr_room); (case ku => ktr_units); k_whole); intro hq_z tkq_z itsq_z ccq_z Fq_z Nq_z hIq_z; k_dflt (have hIsq_z := hIq_z.1); (try dsimp only at Nq_z); (try k_sweep)) | ((with_reducible show wpAny _ _ (callWith _ (Value.ref _) _ _ _) _ _ _); k_dflt (refine' callWith_F ?k1 ?_; (case k1 => exact fnAt_base (by k_asm) (by assumption)); k_whole)) | ((with_reducible show wpAny _ _ (eval (PySem.Expr.Name _ _) _) _ _ _); k_dflt (refine' nameX_base ?F ?c ?o ?d ?_ ?a ?b; (case a => rfl); (case b => rfl); (case F => k_asm); (case c => rfl); (case o => assumption); (case d => assumption); k_whole)) | ((with_reducible show wpAny _ _ (call (Value.builtin "len") [Value.ref _]) _ _ _); k_dflt (refine' len_led ?k1 ?k2 ?k3 ?k4 ?_; (case k1 => k_asm); (case k2 => k_mem); (case k3 => (first | exact Array.size_replicate | rfl)); (case k4 => (first | omega | decide)); k_whole); intro tq_z tkq_z; (try k_sweep)) | walk1 | ((with_reducible show FnAt _ _); k_dflt (exact fnAt_base (by k_asm) (by assumption))))) | (leave1; walk_say "STEP leave1"; (try dsimp only)) | fail "no step"))
        (rename News _ _ _ _ => N9)
        (rename Fr _ _ _ _ => F9)
        refine' hret _ _ _ (fun b o hb e => F9.keep b o (by rw [hg']; exact hideAll_get _ e hb)) ⟨tabs_same TB N9 (by k_mem) (by k_mem) (by k_mem) (by k_mem), ret_list N9 hg' (by k_mem) ?w5 ?w6⟩
        case w5 => (simp only [tail4, List.map_cons, List.map_nil, List.mem_cons, List.not_mem_nil, or_false, not_or]; exact ⟨neN (by omega), neN (by omega), neN (by omega), neN (by omega)⟩)
        case w6 => exact digs_ints (by rw [Array.size_replicate]; rfl) I9
      case key => exact inner_key rfl h2 h3 _ _ _ _ _ _ _ _ _ _ _
    · (rename News _ _ _ _ => N9)
      (rename Fr _ _ _ _ => F9)
      have ha0 : a = 0 := by omega
      have hk4 := hk3 ha0
      refine' hret _ _ _ (fun b o hb e => F9.keep b o (by rw [hg']; exact hideAll_get _ e hb)) ⟨tabs_same TB N9 (by k_mem) (by k_mem) (by k_mem) (by k_mem), ret_list N9 hg' (by k_mem) ?w5 ?w6⟩
      case w5 => (simp only [tail4, List.map_cons, List.map_nil, List.mem_cons, List.not_mem_nil, or_false, not_or]; exact ⟨neN (by omega), neN (by omega), neN (by omega), neN (by omega)⟩)
      case w6 => exact digs_zero hk4
end Mine
end

section
open PySem PySem.W PySem.Calls PySem.Spec PyProof.Rows
namespace Mine
noncomputable def valD (n : Nat) : List Int → Int
  | [] => 0
  | d :: r => d + 2 ^ n * valD n r
theorem valD_append (n : Nat) : ∀ xs ys : List Int, valD n (xs ++ ys) = valD n xs + 2 ^ (n * xs.length) * valD n ys
  | [], ys => by simp [valD]
  | x :: xs, ys => by
    rw [List.cons_append, valD, valD, valD_append n xs ys, List.length_cons, Nat.mul_add, Nat.mul_one, Nat.add_comm (n * xs.length) n, Int.pow_add, Int.mul_add, Int.mul_assoc]
    omega (splitDisjunctions := true)
theorem valD_nonneg (n : Nat) : ∀ {xs : List Int}, (∀ d ∈ xs, 0 ≤ d) → 0 ≤ valD n xs
  | [], _ => Int.le_refl _
  | x :: xs, h => by
    rw [valD]
    have h1 := h x (.head _)
    have h2 := valD_nonneg n (xs := xs) fun d hd => h d (.tail _ hd)
    have h3 : 0 ≤ 2 ^ n * valD n xs := Int.mul_nonneg (by rw [pow_cast]; exact Int.natCast_nonneg _) h2
    omega (splitDisjunctions := true)
noncomputable def segD (n : Nat) (ds : List Int) (l r : Int) : Int := valD n ((ds.drop l.toNat).take (r - l).toNat)
theorem segD_one {n : Nat} {ds : List Int} {l r : Int} (hl : 0 ≤ l) (hr : r = l + 1) (hs : r ≤ ds.length) : segD n ds l r = ds.getD l.toNat 0 := by
  unfold segD
  have e : (r - l).toNat = 1 := by omega (splitDisjunctions := true)
  have hlt : l.toNat < ds.length := by omega (splitDisjunctions := true)
  rw [e, List.drop_eq_getElem_cons hlt, List.take_succ_cons, List.take_zero, valD, valD, List.getD_eq_getElem?_getD, List.getElem?_eq_getElem hlt]
  simp only [Int.mul_zero, Int.add_zero, Option.getD_some]
theorem tn_cut {l mid r : Int} (h1 : l ≤ mid) (h2 : mid ≤ r) : (r - l).toNat = (mid - l).toNat + (r - mid).toNat := by omega (splitDisjunctions := true)
theorem tn_at {l mid : Int} (hl : 0 ≤ l) (h1 : l ≤ mid) : l.toNat + (mid - l).toNat = mid.toNat := by omega (splitDisjunctions := true)
theorem tn_le {mid r : Int} {n : Nat} (h2 : mid ≤ r) (hs : r ≤ n) : mid.toNat ≤ n := Int.toNat_le.mpr (Int.le_trans h2 hs)
theorem segD_two {n : Nat} {ds : List Int} {l mid r : Int} (hl : 0 ≤ l) (h1 : l ≤ mid) (h2 : mid ≤ r) (hs : r ≤ ds.length) : segD n ds l r = segD n ds mid r * 2 ^ (n * (mid - l).toNat) + segD n ds l mid := by
  unfold segD
  have e1 := tn_cut h1 h2
  rw [e1, List.take_add, valD_append]
  have e2 : ((ds.drop l.toNat).drop (mid - l).toNat) = ds.drop mid.toNat := by rw [List.drop_drop, tn_at hl h1]
  have e3 : ((ds.drop l.toNat).take (mid - l).toNat).length = (mid - l).toNat := by
    rw [List.length_take, List.length_drop]
    exact Nat.min_eq_left (Nat.le_sub_of_add_le (by rw [Nat.add_comm, tn_at hl h1]; exact tn_le h2 hs))
  rw [e2, e3, Int.mul_comm, Int.add_comm]
theorem segD_le {n : Nat} {ds : List Int} {l r : Int} (hd : ∀ d ∈ ds, 0 ≤ d) : 0 ≤ segD n ds l r ∧ segD n ds l r ≤ valD n ds := by
  have key : ∀ xs ys : List Int, (∀ d ∈ xs ++ ys, 0 ≤ d) → valD n xs ≤ valD n (xs ++ ys) ∧ valD n ys ≤ valD n (xs ++ ys) := fun xs ys h => by
    rw [valD_append]
    have a := valD_nonneg n (xs := xs) fun d hd => h d (List.mem_append_left _ hd)
    have b := valD_nonneg n (xs := ys) fun d hd => h d (List.mem_append_right _ hd)
    have c : 1 * valD n ys ≤ 2 ^ (n * xs.length) * valD n ys := Int.mul_le_mul_of_nonneg_right (by rw [pow_cast]; have := pow_pos2 (n * xs.length); omega (splitDisjunctions := true)) b
    have d : 0 ≤ 2 ^ (n * xs.length) * valD n ys := by omega (splitDisjunctions := true)
    omega (splitDisjunctions := true)
  unfold segD
  have hd1 : ∀ d ∈ ds.drop l.toNat, 0 ≤ d := fun d h => hd d (List.mem_of_mem_drop h)
  refine ⟨valD_nonneg n fun d h => hd1 d (List.mem_of_mem_take h), ?_⟩
  have k1 := (key ((ds.drop l.toNat).take (r - l).toNat) ((ds.drop l.toNat).drop (r - l).toNat) (by rw [List.take_append_drop]; exact hd1)).1
  rw [List.take_append_drop] at k1
  have k2 := (key (ds.take l.toNat) (ds.drop l.toNat) (by rw [List.take_append_drop]; exact hd)).2
  rw [List.take_append_drop] at k2
  omega (splitDisjunctions := true)
theorem segD_all {n : Nat} {ds : List Int} : segD n ds 0 ds.length = valD n ds := by
  unfold segD
  simp
end Mine
end

theorem Mine.fresh14 : True := by
  w_top off
  trivial
section
open PySem PySem.W PySem.Calls PySem.Spec PyProof.Rows
set_option maxRecDepth 100000
set_option maxHeartbeats 8000000
namespace Mine
noncomputable def Key2At (w : World) (f : Addr) (fo : Obj) (cd ci cn D : Addr) (its : Array Value) (cc : Nat) (ds : List Int) (n : Int) (c' : Addr) (qual : Str) (k : Nat) : Prop :=
  ∀ (s : Shared) (l r : Int) (tl tr : Tok), 0 ≤ l → l < r → r ≤ ds.length → (r - l).toNat = k →
    s.heap.get? f = some fo → s.heap.CodeRec (.ref c') qual → s.heap.IsCell cd (some (.ref D)) → s.heap.IsCell ci (some (.ref f)) → (∃ tn, s.heap.IsCell cn (some (.int n tn))) → s.heap.get? D = some (W.listOf its cc) →
    Does w (k + 1) f [.int l tl, .int r tr] s (fun v _ => ∃ t, v = .int (segD n.toNat ds l r) t)
section
variable {w : World} {A₀ : Around} {s : Shared} {L : Addr} {h₀ base : Heap} {m mg mb : Str → Option Value} {p : Program} {loose : List Str} {mean : ExcName → Option Value} {news : List (Addr × Obj)}
  {dp un : Nat} {gd : Option (List Code)} {cn : Str} {cs : Scope} {a f : Addr} {ccd : Value} {cl : List (Str × Addr)} {outer : List Env} {Q E : Value → Shared → Prop}
theorem key2_ind {f : Addr} {fo : Obj} {cd ci cnn D : Addr} {its : Array Value} {cc : Nat} {ds : List Int} {n : Int} {c' : Addr} {qual : Str} (step : ∀ k, (∀ j, j < k → Key2At w f fo cd ci cnn D its cc ds n c' qual j) → Key2At w f fo cd ci cnn D its cc ds n c' qual k) : ∀ k, Key2At w f fo cd ci cnn D its cc ds n c' qual k := fun k => by
  induction k using Nat.strongRecOn with
  | ind k ih => exact step k ih
theorem use_inner2 {k : Nat} {name qual : Str} {params : Arguments} {body : List Stmt} {scope : Scope} {clos : List (Str × Addr)} {doc pm ctv : Value} {cd ci cnn D c' : Addr} {its : Array Value} {cc : Nat} {ds : List Int} {n l r : Int} {tl tr : Tok} (key : Key2At w f (fnMade name qual params body scope clos doc pm c' ctv) cd ci cnn D its cc ds n c' qual k)
    (B : Below A₀ base outer h₀) (F : Fr h₀ L s.heap m) (X : (hd.heap_1 w.params).In h₀) (T : Top p loose mean mg mb h₀) (hk : cs.kind = .function)
    (N : News h₀ L s.heap news)
    (hf : s.heap.get? f = some (fnMade name qual params body scope clos doc pm c' ctv)) (hcode : s.heap.CodeRec (.ref c') qual) (hca : s.heap.IsCell cd (some (.ref D))) (hci : s.heap.IsCell ci (some (.ref f))) (hcn : ∃ tn, s.heap.IsCell cnn (some (.int n tn))) (hD : s.heap.get? D = some (W.listOf its cc))
    (h2 : 0 ≤ l ∧ l < r ∧ r ≤ ds.length) (h3 : (r - l).toNat = k)
    (hd : dp + (k + 1) < recursionLimit) (hu : un + 8 * (k + 1) < cLine)
    (ret : ∀ h' tk' t, Fr h₀ L h' m → News h₀ L h' news → Q (.int (segD n.toNat ds l r) t) { s with heap := h', toks := tk' }) :
    wpAny (model PR w) (ktrTop dp un gd cn cs L a ccd cl outer) (call (.ref f) [.int l tl, .int r tr]) Q E s :=
  use0 (key s l r tl tr h2.1 h2.2.1 h2.2.2 h3 hf hcode hca hci hcn hD) B F X T hk N hd hu fun v h' tk' F' N' ⟨t, hv⟩ => by subst hv; exact ret h' tk' t F' N'
theorem use_ih2 {k₀ : Nat} {name qual : Str} {params : Arguments} {body : List Stmt} {scope : Scope} {clos : List (Str × Addr)} {doc pm ctv : Value} {cd ci cnn D c' : Addr} {its : Array Value} {cc : Nat} {ds : List Int} {n l r : Int} {tl tr : Tok} (ih : ∀ j, j < k₀ → Key2At w f (fnMade name qual params body scope clos doc pm c' ctv) cd ci cnn D its cc ds n c' qual j)
    (B : Below A₀ base outer h₀) (F : Fr h₀ L s.heap m) (X : (hd.heap_1 w.params).In h₀) (T : Top p loose mean mg mb h₀) (hk : cs.kind = .function)
    (N : News h₀ L s.heap news)
    (hf : h₀.get? f = some (fnMade name qual params body scope clos doc pm c' ctv)) (hcode : h₀.CodeRec (.ref c') qual) (hca : h₀.IsCell cd (some (.ref D))) (hci : h₀.IsCell ci (some (.ref f))) (hcn : ∃ tn, h₀.IsCell cnn (some (.int n tn))) (hD : h₀.get? D = some (W.listOf its cc))
    (h2 : 0 ≤ l ∧ l < r ∧ r ≤ ds.length) (h3 : (r - l).toNat < k₀)
    (hd : dp + k₀ < recursionLimit) (hu : un + 8 * k₀ < cLine)
    (ret : ∀ h' tk' t, Fr h₀ L h' m → News h₀ L h' news → Q (.int (segD n.toNat ds l r) t) { s with heap := h', toks := tk' }) :
    wpAny (model PR w) (ktrTop dp un gd cn cs L a ccd cl outer) (call (.ref f) [.int l tl, .int r tr]) Q E s :=
  use0 (ih _ h3 s l r tl tr h2.1 h2.2.1 h2.2.2 rfl (F.keep _ _ hf) (hcode.keeps F.keep) (let ⟨o, a, b⟩ := hca; ⟨o, F.keep _ _ a, b⟩) (let ⟨o, a, b⟩ := hci; ⟨o, F.keep _ _ a, b⟩) (let ⟨t, o, a, b⟩ := hcn; ⟨t, o, F.keep _ _ a, b⟩) (F.keep _ _ hD)) B F X T hk N (by omega) (by omega) fun v h' tk' F' N' ⟨t, hv⟩ => by subst hv; exact ret h' tk' t F' N'
theorem item_base {prog : Program} {A : Around} {value slice : PySem.Expr} {D : Addr} {its : Array Value} {cc : Nat} {ds : List Int} {k : Int} {u : Tok} (F : Fr h₀ L s.heap m) (ho : h₀.get? D = some (W.listOf its cc)) (hI : IntsAre its.toList ds) (h0 : 0 ≤ k) (hk : k < ds.length) (hz : ds.length ≤ 1000)
    (h : ∀ t, Q (.int (ds.getD k.toNat 0) t) s)
    (hs : subscripted slice false (.ref D) (.int k u) = operate [.ref D, .int k u] (getItem (.ref D) (.int k u)) := by with_unfolding_all rfl) (hg : ∀ r, letTemporaryGo value (.ref D) r = pure () := by intro _; with_unfolding_all rfl) :
    wpAny (model prog w) A (subscriptTail value slice (.ref D) (.int k u)) Q E s := by
  have hlt : k.toNat < its.toList.length := by rw [hI.length]; omega
  obtain ⟨t, ht⟩ := hI.int_at k.toNat its.toList[k.toNat] (List.getElem?_eq_getElem hlt)
  refine item_list (items := its) ⟨_, F.keep _ _ ho, rfl, cc, rfl⟩ h0 (by omega) (x := .int (ds.getD k.toNat 0) t) ?_ (h t) hs hg
  rw [← Array.getElem?_toList, List.getElem?_eq_getElem hlt, ht]
theorem truthy_base {prog : Program} {A : Around} {D : Addr} {its : Array Value} {cc : Nat} {ds : List Int} {Q : Bool → Shared → Prop} (F : Fr h₀ L s.heap m) (ho : h₀.get? D = some (W.listOf its cc)) (hI : IntsAre its.toList ds) (hz : ds.length ≤ 1000)
    (h : ∀ tk, Q (decide (0 < ds.length)) { s with toks := tk }) : wpAny (model prog w) A (truthy (.ref D)) Q E s := by
  have hlen : its.size = ds.length := by have := hI.length; simpa using this
  refine wpAny_truthy_list (items := its) ⟨_, F.keep _ _ ho, rfl, cc, rfl⟩ (by omega) ?_
  have e : (!its.isEmpty) = decide (0 < ds.length) := by
    rw [← hlen]
    cases its with | mk l => cases l <;> simp
  rw [e]; exact h _
theorem len_base {prog : Program} {A : Around} {D : Addr} {its : Array Value} {cc : Nat} {ds : List Int} (F : Fr h₀ L s.heap m) (ho : h₀.get? D = some (W.listOf its cc)) (hI : IntsAre its.toList ds) (hz : ds.length ≤ 1000)
    (h : ∀ t tk, Q (.int ds.length t) { s with toks := tk }) : wpAny (model prog w) A (call (.builtin "len") [.ref D]) Q E s := by
  have hlen : its.size = ds.length := by have := hI.length; simpa using this
  refine len_list (items := its) ⟨_, F.keep _ _ ho, rfl, cc, rfl⟩ (by omega) ?_
  rw [hlen]; exact h _ _
end
theorem qual5 {sc : Scope} {L a : Addr} {cd : Value} (h : ((envOfC (Str.ofString "_digits2int") sc L a cd).kindOf (Str.ofString "inner") == some .globalExplicit) = false) : qualnameIn (envOfC (Str.ofString "_digits2int") sc L a cd) (Str.ofString "inner") (Str.ofString "inner") = q5 := by
  unfold qualnameIn
  rw [h]
  show (Str.ofString "_digits2int" ++ ".<locals>." ++ Str.ofString "inner" : Str) = q5
  unfold q5
  decide +kernel
theorem tabs_cold5 {g h h' : Heap} {L c5 c8 c' : Addr} {t8 o5 o8 oc : Obj} {news : List (Addr × Obj)} {l : List Addr} (TB : Tabs (tabObj #[]) t8 c5 c8 o5 o8) (N : News g L h' news) (hg : g = hideAll h l) (m8 : (58, t8) ∈ news) (m5 : (65, tabObj #[rawInt 62, rawInt 4, .ref c']) ∈ news) (mc8 : (c8, o8) ∈ news) (mc5 : (c', oc) ∈ news)
    (hc5 : c5 = 65) (hne : c' ∉ l) (n65 : c' ≠ 65) (n58 : c' ≠ 58) (code : IsCodeO q5 oc) : ∃ t5' t8' c5' c8' o5' o8', TabsOut h c5 c8 h' t5' t8' c5' c8' o5' o8' :=
  ⟨_, t8, c', c8, oc, o8, ⟨n58, TB.c8n, .inr ⟨rfl, n65, code⟩, TB.k8⟩, N.get m5, N.get m8, N.get mc5, N.get mc8, .inr ⟨hc5, fresh_of N mc5 hg hne⟩, .inl rfl⟩
theorem foot_off {h₀ h : Heap} {L D c5 c8 : Addr} {t5 t8 o5 o8 : Obj} {its : Array Value} {cc : Nat} (TB : Tabs t5 t8 c5 c8 o5 o8) (N : News h₀ L h (tail4 t5 t8 c5 c8 o5 o8)) (hD : h.get? D = some (W.listOf its cc)) : D ∉ List.map (fun x => x.1) (tail4 t5 t8 c5 c8 o5 o8) := fun hm => by
  obtain ⟨q, hq, e⟩ := List.mem_map.mp hm
  have e1 := N.get (a := q.1) (o := q.2) hq
  have e0 : q.1 = D := e
  rw [e0, hD] at e1
  have eo : W.listOf its cc = q.2 := Option.some.inj e1
  have t5d : ∃ ps, t5 = tabObj ps := by rcases TB.k5 with ⟨h, _⟩ | ⟨h, _⟩ <;> exact ⟨_, h⟩
  have t8d : ∃ ps, t8 = tabObj ps := by rcases TB.k8 with ⟨h, _⟩ | ⟨h, _⟩ <;> exact ⟨_, h⟩
  obtain ⟨ps5, rfl⟩ := t5d
  obtain ⟨ps8, rfl⟩ := t8d
  have h65 := N.get (a := 65) (o := tabObj ps5) (by simp [tail4])
  have h58 := N.get (a := 58) (o := tabObj ps8) (by simp [tail4])
  simp only [tail4, List.mem_cons, List.not_mem_nil, or_false] at hq
  rcases hq with rfl | rfl | rfl | rfl
  · cases eo
  · cases eo
  · rcases TB.k5 with ⟨_, rfl⟩ | ⟨_, _, vs, t, hd', _⟩
    · have e' : (65 : Addr) = D := e0
      rw [← e', h65] at hD; cases hD
    · have e3 : W.listOf its cc = o5 := eo
      rw [← e3] at hd'; cases hd'
  · rcases TB.k8 with ⟨_, rfl⟩ | ⟨_, _, vs, t, hd', _⟩
    · have e' : (58 : Addr) = D := e0
      rw [← e', h58] at hD; cases hD
    · have e3 : W.listOf its cc = o8 := eo
      rw [← e3] at hd'; cases hd'
local macro_rules | `(tactic| walk_at "eval Name") => `(tactic| (k_here; k_dflt (refine' nameX_base ?F ?c ?o ?d ?_ ?a ?b; (case a => rfl); (case b => rfl); (case F => k_asm); (case c => rfl); (case o => assumption); (case d => assumption); k_whole)))
local macro_rules | `(tactic| walk_at "callWith ref") => `(tactic| (k_here; k_dflt (refine' callWith_F ?k1 ?_; (case k1 => exact fnAt_base (by k_asm) (by assumption)); k_whole)))
local macro_rules | `(tactic| walk_at "FnAt") => `(tactic| (k_dflt (exact fnAt_base (by k_asm) (by assumption))))
local macro_rules | `(tactic| walk_at "subscriptTail") => `(tactic| (k_here; (with_reducible show wpAny _ _ (subscriptTail _ _ (Value.ref _) (Value.int _ _)) _ _ _); k_dflt (refine' item_base ?k1 ?k2 ?k3 ?k4 ?k5 ?k6 ?_; (case k1 => k_asm); (case k2 => assumption); (case k3 => assumption); (case k4 => omega); (case k5 => omega); (case k6 => omega); k_whole); intro t'))
theorem inner_key2 {params : Arguments} {body : List Stmt} {scope : Scope} (e : ((PySem.Challenge.pw_ph0131_01.main.body[7]?.bind fnOfS).bind fun x => x.2.1[0]?.bind fnOfS) = some (params, body, scope)) {w : World} {D : Addr} {its : Array Value} {cc : Nat} {ds : List Int} {n : Int} (hI : IntsAre its.toList ds) (hlen : ds.length ≤ 40) (hds : ∀ d ∈ ds, 0 ≤ d) (hv : valD n.toNat ds < 1099511627776) (h2 : 1 ≤ n) (h3 : n < 20)
    (f cd ci cn c' : Addr) (q : Str) (doc pm ctv : Value) (k : Nat) : Key2At w f (fnMade (Str.ofString "inner") q params body scope [(Str.ofString "n", cn), (Str.ofString "inner", ci), (Str.ofString "digits", cd)] doc pm c' ctv) cd ci cn D its cc ds n c' q k := by
  cases e
  refine key2_ind ?_ _
  intro k ih s l r tl tr hl0 hlr hr hkk hfo hcode hca hci hcn hDD
  obtain ⟨oa, hca1, hca2⟩ := hca
  obtain ⟨oi, hci1, hci2⟩ := hci
  obtain ⟨tn, on, hcn1, hcn2⟩ := hcn
  intro p loose mean mg mb dp un gd cn cs fa ccd cl outer A₀ base h₀ L m Q E B F X T hk hd hu hret
  refine wpAny_call ?_
  refine' enterN B F X News.nil T ?kA ?kF ?kK hfo ?kd hcode ?k8 ?k9 ?kB ?_ ?c2 ?c3 ?c4 ?c5
  case kA => exact rfl
  case kF => exact rfl
  case kK => exact hk
  case kd => exact rfl
  case k8 => ktr_room
  case k9 => exact BindsTo.of_eq rfl
  case kB => exact locs rfl
  case c2 => exact rfl
  case c3 => exact rfl
  case c4 => exact rfl
  case c5 => decide
  intro g2 L2 h2' hg2 F2 N2 B2 X2 T2 l2
  have hg3 : g2 = s.heap := hg2
  rw [← hg3] at hfo hca1 hci1 hcn1 hDD hcode
  obtain ⟨mid, hmid⟩ : ∃ mid, (l + r).fdiv (2 ^ Int.toNat 1) = mid := ⟨_, rfl⟩
  have hmid2 : mid = (l + r) / 2 := by rw [← hmid, fdiv_pow]; rfl
  obtain ⟨sh, hsh⟩ : ∃ sh, (mid - l) * n = sh := ⟨_, rfl⟩
  have hsh0 : 0 ≤ sh := by rw [← hsh]; exact Int.mul_nonneg (by omega) (by omega)
  have hsh1 : sh ≤ 800 := by
    have e1 : (mid - l) * n ≤ 40 * n := Int.mul_le_mul_of_nonneg_right (by omega) (by omega)
    omega
  have hseg := segD_le (n := n.toNat) (l := mid) (r := r) hds
  obtain ⟨hi, hhi⟩ : ∃ hi, segD n.toNat ds mid r * 2 ^ sh.toNat = hi := ⟨_, rfl⟩
  have hshn : sh.toNat = n.toNat * (mid - l).toNat := by
    have e1 : (mid - l) * n = ((n.toNat * (mid - l).toNat : Nat) : Int) := by
      push_cast
      rw [Int.toNat_of_nonneg (by omega), Int.toNat_of_nonneg (by omega), Int.mul_comm]
    rw [← hsh, e1]; exact Int.toNat_natCast _
  (try dsimp only)
  (try k_fold)
  (repeat' (first | (k_unfold; (try dsimp only)) | (k_end; kc_close) | (first | ((with_reducible show wpAny _ _ (binaryOp Operator.Mult (Value.int _ _) (Value.int _ _)) _ _ _); k_dflt (refine' mul_to ?k1 ?k2 ?_; (case k2 => assumption); (case k1 => mul_fits); k_whole); intro tq_z tkq_z) | ((with_reducible show wpAny _ _ (binaryOp Operator.LShift (Value.int _ _) (Value.int _ _)) _ _ _); k_dflt (refine' shl_to ?k1 ?k2 ?k3 ?k4 ?_; (case k4 => assumption); (case k1 => omega); (case k2 => omega); (case k3 => omega); k_whole); intro tq_z tkq_z) | ((with_reducible show wpAny _ _ (binaryOp Operator.RShift (Value.int _ _) (Value.int _ _)) _ _ _); k_dflt (refine' shr_to ?k1 ?k2 ?_; (case k2 => assumption); (case k1 => omega); k_whole); intro tq_z tkq_z) | ((with_reducible show wpAny _ _ (call (Value.builtin "len") [Value.ref _]) _ _ _); k_dflt (refine' len_base ?k1 ?k2 ?k3 ?k4 ?_; (case k1 => k_asm); (case k2 => assumption); (case k3 => assumption); (case k4 => omega); k_whole); intro tq_z tkq_z) | ((with_reducible show wpAny _ _ (truthy (Value.ref _)) _ _ _); k_dflt (refine' truthy_base ?k1 ?k2 ?k3 ?k4 ?_; (case k1 => k_asm); (case k2 => assumption); (case k3 => assumption); (case k4 => omega); k_whole); intro tkq_z) | ((with_reducible show wpAny _ _ (call (Value.ref _) [Value.int _ _, Value.int _ _]) _ _ _); k_dflt (refine' use_ih2 ?key ?k1 ?k2 ?k3 ?k4 ?kK ?k5 ?kf ?kc ?ka ?ki ?kn ?kD ?b2 ?b3 ?kd ?ku ?_; (case key => assumption); (case k1 => k_asm); (case k2 => k_asm); (case k3 => k_asm); (case k4 => k_asm); (case kK => rfl); (case k5 => k_asm); (case kf => assumption); (case kc => assumption); (case ka => exact ⟨_, by assumption, by assumption⟩); (case ki => exact ⟨_, by assumption, by assumption⟩); (case kn => exact ⟨_, _, by assumption, by assumption⟩); (case kD => assumption); (case b2 => exact ⟨by omega, by omega, by omega⟩); (case b3 => omega); (case kd => ktr_room); (case ku => ktr_units); k_whole); intro hq_z tkq_z tq_z Fq_z Nq_z; (try k_sweep)) | walk1) | (dsimp only; (first | ((with_reducible show wpAny _ _ (binaryOp Operator.Mult (Value.int _ _) (Value.int _ _)) _ _ _); k_dflt (refine' mul_to ?k1 ?k2 ?_; (case k2 => assumption); (case k1 => mul_fits); k_whole); intro tq_z tkq_z) | ((with_reducible show wpAny _ _ (binaryOp Operator.LShift (Value.int _ _) (Value.int _ _)) _ _ _); k_dflt (refine' shl_to ?k1 ?k2 ?k3 ?k4 ?_; (case k4 => assumption); (case k1 => omega); (case k2 => omega); (case k3 => omega); k_whole); intro tq_z tkq_z) | ((with_reducible show wpAny _ _ (binaryOp Operator.RShift (Value.int _ _) (Value.int _ _)) _ _ _); k_dflt (refine' shr_to ?k1 ?k2 ?_; (case k2 => assumption); (case k1 => omega); k_whole); intro tq_z tkq_z) | ((with_reducible show wpAny _ _ (call (Value.builtin "len") [Value.ref _]) _ _ _); k_dflt (refine' len_base ?k1 ?k2 ?k3 ?k4 ?_; (case k1 => k_asm); (case k2 => assumption); (case k3 => assumption); (case k4 => omega); k_whole); intro tq_z tkq_z) | ((with_reducible show wpAny _ _ (truthy (Value.ref _)) _ _ _); k_dflt (refine' truthy_base ?k1 ?k2 ?k3 ?k4 ?_; (case k1 => k_asm); (case k2 => assumption); (case k3 => assumption); (case k4 => omega); k_whole); intro tkq_z) | ((with_reducible show wpAny _ _ (call (Value.ref _) [Value.int _ _, Value.int _ _]) _ _ _); k_dflt (refine' use_ih2 ?key ?k1 ?k2 ?k3 ?k4 ?kK ?k5 ?kf ?kc ?ka ?ki ?kn ?kD ?b2 ?b3 ?kd ?ku ?_; (case key => assumption); (case k1 => k_asm); (case k2 => k_asm); (case k3 => k_asm); (case k4 => k_asm); (case kK => rfl); (case k5 => k_asm); (case kf => assumption); (case kc => assumption); (case ka => exact ⟨_, by assumption, by assumption⟩); (case ki => exact ⟨_, by assumption, by assumption⟩); (case kn => exact ⟨_, _, by assumption, by assumption⟩); (case kD => assumption); (case b2 => exact ⟨by omega, by omega, by omega⟩); (case b3 => omega); (case kd => ktr_room); (case ku => ktr_units); k_whole); intro hq_z tkq_z tq_z Fq_z Nq_z; (try k_sweep)) | walk1)) | (leave1; walk_say "STEP leave1"; (try dsimp only)) | fail "no step"))
  · (rename Fr _ _ _ _ => F9)
    exact hret _ _ _ (fun b o e => F9.keep b o (by rw [hg3]; exact e)) ⟨_, by rw [segD_one hl0 (by omega) hr]⟩
  · (rename Fr _ _ _ _ => F9)
    exact hret _ _ _ (fun b o e => F9.keep b o (by rw [hg3]; exact e)) ⟨_, by rw [segD_two (mid := mid) hl0 (by omega) (by omega) hr, ← hshn, hhi]⟩
theorem d_d2i {w : World} {D : Addr} {its : Array Value} {cc : Nat} {ds : List Int} {n : Int} {t2 : Tok} {s : Shared} (hD : s.heap.get? D = some (W.listOf its cc)) (hI : IntsAre its.toList ds) (hlen : ds.length ≤ 40) (hds : ∀ d ∈ ds, 0 ≤ d) (hv : valD n.toNat ds < 1099511627776) (h2 : 1 ≤ n) (h3 : n < 20) :
    DoesT w 45 70 [.ref D, .int n t2] s (fun v h => ∃ t, v = .int (valD n.toNat ds) t) := by
  intro t5 t8 c5 c8 o5 o8 TB
  intro p loose mean mg mb dp un gd cn cs fa ccd cl outer A₀ base h₀ L m Q E B F N X T hk hd hu hret
  refine wpAny_call ?_
  have hDf : D ∉ List.map (fun x => x.1) (tail4 t5 t8 c5 c8 o5 o8) := foot_off TB N hD
  rcases TB.k5 with ⟨ht5, hc5⟩ | ⟨ht5, hc5, hcode⟩
  · subst ht5
    k_dflt ((refine' enterC ?k1 ?k2 ?k3 ?k4 ?k5 ?kA ?kF ?kK ?k6 ?k7 ?k8 ?k9 ?kB ?kC ?_ ?c2 ?c3 ?c4; (case kA => exact rfl); (case kF => exact rfl); (case kK => assumption); (case k1 => k_asm); (case k2 => k_asm); (case k3 => k_asm); (case k4 => k_asm); (case k5 => k_asm); (case k6 => k_is); (case k7 => k_is); (case k8 => ktr_room); (case k9 => exact BindsTo.of_eq rfl); (case kB => exact rfl); (case kC => decide); (case c2 => exact rfl); (case c3 => exact rfl); (case c4 => exact rfl); k_whole))
    intro g' L' h' tk' cells' hg' F' N' Y' B' X' T' l0'
    k_cells Y'
    have l0 := l0'
    k_lt l0
    have N2 : News g' L' h' _ := fun q hq => N' q (List.mem_append.mpr ((List.mem_append.mp hq).imp (fun h => h) (fun (h : q ∈ [(65, tabObj #[]), (58, t8), (c8, o8)]) => by simp only [tail4, List.mem_cons, List.not_mem_nil, or_false] at h ⊢; rcases h with h | h | h <;> simp [h])))
    clear N'
    simp only [List.cons_append, List.nil_append] at N2
    have hc8n : @Ne Nat c8 65 := TB.c8n
    have codeHd : CodeHd g' 69 65 := codeHd_of_K X' (by kernel_rfl)
    have gD := hideAll_get _ hD hDf
    rw [← hg'] at gD
    (try dsimp only)
    (try k_fold)
    (repeat' (first | (k_unfold; (try dsimp only)) | (k_end; kc_close) | (first | ((with_reducible show wpAny _ _ (binaryOp Operator.Mult (Value.int _ _) (Value.int _ _)) _ _ _); k_dflt (refine' mul_to ?k1 ?k2 ?_; (case k2 => assumption); (case k1 => mul_fits); k_whole); intro tq_z tkq_z) | ((with_reducible show wpAny _ _ (binaryOp Operator.LShift (Value.int _ _) (Value.int _ _)) _ _ _); k_dflt (refine' shl_to ?k1 ?k2 ?k3 ?k4 ?_; (case k4 => assumption); (case k1 => omega); (case k2 => omega); (case k3 => omega); k_whole); intro tq_z tkq_z) | ((with_reducible show wpAny _ _ (binaryOp Operator.RShift (Value.int _ _) (Value.int _ _)) _ _ _); k_dflt (refine' shr_to ?k1 ?k2 ?_; (case k2 => assumption); (case k1 => omega); k_whole); intro tq_z tkq_z) | ((with_reducible show wpAny _ _ (call (Value.builtin "len") [Value.ref _]) _ _ _); k_dflt (refine' len_base ?k1 ?k2 ?k3 ?k4 ?_; (case k1 => k_asm); (case k2 => assumption); (case k3 => assumption); (case k4 => omega); k_whole); intro tq_z tkq_z) | ((with_reducible show wpAny _ _ (truthy (Value.ref _)) _ _ _); k_dflt (refine' truthy_base ?k1 ?k2 ?k3 ?k4 ?_; (case k1 => k_asm); (case k2 => assumption); (case k3 => assumption); (case k4 => omega); k_whole); intro tkq_z) | ((with_reducible show wpAny _ _ (call (Value.ref _) [Value.int _ _, Value.int _ _]) _ _ _); k_dflt (refine' use_ih2 ?key ?k1 ?k2 ?k3 ?k4 ?kK ?k5 ?kf ?kc ?ka ?ki ?kn ?kD ?b2 ?b3 ?kd ?ku ?_; (case key => assumption); (case k1 => k_asm); (case k2 => k_asm); (case k3 => k_asm); (case k4 => k_asm); (case kK => rfl); (case k5 => k_asm); (case kf => assumption); (case kc => assumption); (case ka => exact ⟨_, by assumption, by assumption⟩); (case ki => exact ⟨_, by assumption, by assumption⟩); (case kn => exact ⟨_, _, by assumption, by assumption⟩); (case kD => assumption); (case b2 => exact ⟨by omega, by omega, by omega⟩); (case b3 => omega); (case kd => ktr_room); (case ku => ktr_units); k_whole); intro hq_z tkq_z tq_z Fq_z Nq_z; (try k_sweep)) | walk1) | (dsimp only; (first | ((with_reducible show wpAny _ _ (binaryOp Operator.Mult (Value.int _ _) (Value.int _ _)) _ _ _); k_dflt (refine' mul_to ?k1 ?k2 ?_; (case k2 => assumption); (case k1 => mul_fits); k_whole); intro tq_z tkq_z) | ((with_reducible show wpAny _ _ (binaryOp Operator.LShift (Value.int _ _) (Value.int _ _)) _ _ _); k_dflt (refine' shl_to ?k1 ?k2 ?k3 ?k4 ?_; (case k4 => assumption); (case k1 => omega); (case k2 => omega); (case k3 => omega); k_whole); intro tq_z tkq_z) | ((with_reducible show wpAny _ _ (binaryOp Operator.RShift (Value.int _ _) (Value.int _ _)) _ _ _); k_dflt (refine' shr_to ?k1 ?k2 ?_; (case k2 => assumption); (case k1 => omega); k_whole); intro tq_z tkq_z) | ((with_reducible show wpAny _ _ (call (Value.builtin "len") [Value.ref _]) _ _ _); k_dflt (refine' len_base ?k1 ?k2 ?k3 ?k4 ?_; (case k1 => k_asm); (case k2 => assumption); (case k3 => assumption); (case k4 => omega); k_whole); intro tq_z tkq_z) | ((with_reducible show wpAny _ _ (truthy (Value.ref _)) _ _ _); k_dflt (refine' truthy_base ?k1 ?k2 ?k3 ?k4 ?_; (case k1 => k_asm); (case k2 => assumption); (case k3 => assumption); (case k4 => omega); k_whole); intro tkq_z) | ((with_reducible show wpAny _ _ (call (Value.ref _) [Value.int _ _, Value.int _ _]) _ _ _); k_dflt (refine' use_ih2 ?key ?k1 ?k2 ?k3 ?k4 ?kK ?k5 ?kf ?kc ?ka ?ki ?kn ?kD ?b2 ?b3 ?kd ?ku ?_; (case key => assumption); (case k1 => k_asm); (case k2 => k_asm); (case k3 => k_asm); (case k4 => k_asm); (case kK => rfl); (case k5 => k_asm); (case kf => assumption); (case kc => assumption); (case ka => exact ⟨_, by assumption, by assumption⟩); (case ki => exact ⟨_, by assumption, by assumption⟩); (case kn => exact ⟨_, _, by assumption, by assumption⟩); (case kD => assumption); (case b2 => exact ⟨by omega, by omega, by omega⟩); (case b3 => omega); (case kd => ktr_room); (case ku => ktr_units); k_whole); intro hq_z tkq_z tq_z Fq_z Nq_z; (try k_sweep)) | walk1)) | (leave1; walk_say "STEP leave1"; (try dsimp only)) | fail "no step"))
    · (rename News _ _ _ _ => NL)
      (rename Fr _ _ _ _ => FL)
      refine' use_inner2 (cd := L' + 1) (ci := L' + 1 + 1 + 1) (cnn := L' + 1 + 1) (n := n) (ds := ds) (its := its) (cc := cc) (D := D) ?key B' FL X' T' rfl NL ?kf ?kc ?ka ?ki ?kn ?kD ?b1 rfl ?hd ?hu ?ret
      case kf => exact News.get NL (by k_mem)
      case kc => exact codeRec_news NL (by k_mem) (by assumption) (by assumption)
      case ka => (refine' ⟨_, News.get NL ?m1, ?m2⟩; (case m1 => k_mem); (case m2 => assumption))
      case ki => (refine' ⟨_, News.get NL ?m1, ?m2⟩; (case m1 => k_mem); (case m2 => assumption))
      case kn => (refine' ⟨_, _, News.get NL ?m1, ?m2⟩; (case m1 => k_mem); (case m2 => assumption))
      case kD => exact FL.keep _ _ gD
      case b1 => exact ⟨Int.le_refl _, by omega, Int.le_refl _⟩
      case hd => ktr_room
      case hu => ktr_units
      case ret =>
        intro h9 tk9 t9 F9 N9
        rw [segD_all]
        refine' hret _ _ _ (fun b o hb e => F9.keep b o (by rw [hg']; exact hideAll_get _ e hb)) ⟨tabs_cold5 TB N9 hg' (by k_mem) (by k_mem) (by k_mem) ?mc hc5 ?w1 ?w2 ?w3 ?w4, ⟨_, rfl⟩⟩
        case mc => k_mem
        case w1 => (simp only [tail4, List.map_cons, List.map_nil, List.mem_cons, List.not_mem_nil, or_false, not_or]; exact ⟨neN (by omega), neN (by omega), neN (by omega), neN (by omega)⟩)
        case w2 => exact neN (by omega)
        case w3 => exact neN (by omega)
        case w4 => (rename (_ = some (Value.str _ _)) => hv9; exact ⟨_, _, by assumption, by rw [qual5 rfl] at hv9; exact hv9⟩)
      case key => exact inner_key2 rfl hI hlen hds hv h2 h3 _ _ _ _ _ _ _ _ _ _
    · (rename News _ _ _ _ => N9)
      (rename Fr _ _ _ _ => F9)
      have hnil : ds = [] := List.eq_nil_of_length_eq_zero (by omega)
      refine' hret _ _ _ (fun b o hb e => F9.keep b o (by rw [hg']; exact hideAll_get _ e hb)) ⟨tabs_cold5 TB N9 hg' (by k_mem) (by k_mem) (by k_mem) ?mc hc5 ?w1 ?w2 ?w3 ?w4, ⟨_, by subst hnil; rfl⟩⟩
      case mc => k_mem
      case w1 => (simp only [tail4, List.map_cons, List.map_nil, List.mem_cons, List.not_mem_nil, or_false, not_or]; exact ⟨neN (by omega), neN (by omega), neN (by omega), neN (by omega)⟩)
      case w2 => exact neN (by omega)
      case w3 => exact neN (by omega)
      case w4 => (rename (_ = some (Value.str _ _)) => hv9; exact ⟨_, _, by assumption, by rw [qual5 rfl] at hv9; exact hv9⟩)
  · subst ht5
    k_dflt ((refine' enterC ?k1 ?k2 ?k3 ?k4 ?k5 ?kA ?kF ?kK ?k6 ?k7 ?k8 ?k9 ?kB ?kC ?_ ?c2 ?c3 ?c4; (case kA => exact rfl); (case kF => exact rfl); (case kK => assumption); (case k1 => k_asm); (case k2 => k_asm); (case k3 => k_asm); (case k4 => k_asm); (case k5 => k_asm); (case k6 => k_is); (case k7 => k_is); (case k8 => ktr_room); (case k9 => exact BindsTo.of_eq rfl); (case kB => exact rfl); (case kC => decide); (case c2 => exact rfl); (case c3 => exact rfl); (case c4 => exact rfl); k_whole))
    intro g' L' h' tk' cells' hg' F' N' Y' B' X' T' l0'
    k_cells Y'
    have l0 := l0'
    k_lt l0
    simp only [tail4, List.cons_append, List.nil_append] at N'
    have hc8n : @Ne Nat c8 65 := TB.c8n
    have hc5n : @Ne Nat c5 65 := hc5
    obtain ⟨vs5, t5', hcd1, hcd2⟩ := hcode
    have codeHd : CodeHd g' 69 65 := codeHd_of_K X' (by kernel_rfl)
    have gD := hideAll_get _ hD hDf
    rw [← hg'] at gD
    (try dsimp only)
    (try k_fold)
    (repeat' (first | (k_unfold; (try dsimp only)) | (k_end; kc_close) | (first | ((with_reducible show wpAny _ _ (binaryOp Operator.Mult (Value.int _ _) (Value.int _ _)) _ _ _); k_dflt (refine' mul_to ?k1 ?k2 ?_; (case k2 => assumption); (case k1 => mul_fits); k_whole); intro tq_z tkq_z) | ((with_reducible show wpAny _ _ (binaryOp Operator.LShift (Value.int _ _) (Value.int _ _)) _ _ _); k_dflt (refine' shl_to ?k1 ?k2 ?k3 ?k4 ?_; (case k4 => assumption); (case k1 => omega); (case k2 => omega); (case k3 => omega); k_whole); intro tq_z tkq_z) | ((with_reducible show wpAny _ _ (binaryOp Operator.RShift (Value.int _ _) (Value.int _ _)) _ _ _); k_dflt (refine' shr_to ?k1 ?k2 ?_; (case k2 => assumption); (case k1 => omega); k_whole); intro tq_z tkq_z) | ((with_reducible show wpAny _ _ (call (Value.builtin "len") [Value.ref _]) _ _ _); k_dflt (refine' len_base ?k1 ?k2 ?k3 ?k4 ?_; (case k1 => k_asm); (case k2 => assumption); (case k3 => assumption); (case k4 => omega); k_whole); intro tq_z tkq_z) | ((with_reducible show wpAny _ _ (truthy (Value.ref _)) _ _ _); k_dflt (refine' truthy_base ?k1 ?k2 ?k3 ?k4 ?_; (case k1 => k_asm); (case k2 => assumption); (case k3 => assumption); (case k4 => omega); k_whole); intro tkq_z) | ((with_reducible show wpAny _ _ (call (Value.ref _) [Value.int _ _, Value.int _ _]) _ _ _); k_dflt (refine' use_ih2 ?key ?k1 ?k2 ?k3 ?k4 ?kK ?k5 ?kf ?kc ?ka ?ki ?kn ?kD ?b2 ?b3 ?kd ?ku ?_; (case key => assumption); (case k1 => k_asm); (case k2 => k_asm); (case k3 => k_asm); (case k4 => k_asm); (case kK => rfl); (case k5 => k_asm); (case kf => assumption); (case kc => assumption); (case ka => exact ⟨_, by assumption, by assumption⟩); (case ki => exact ⟨_, by assumption, by assumption⟩); (case kn => exact ⟨_, _, by assumption, by assumption⟩); (case kD => assumption); (case b2 => exact ⟨by omega, by omega, by omega⟩); (case b3 => omega); (case kd => ktr_room); (case ku => ktr_units); k_whole); intro hq_z tkq_z tq_z Fq_z Nq_z; (try k_sweep)) | walk1) | (dsimp only; (first | ((with_reducible show wpAny _ _ (binaryOp Operator.Mult (Value.int _ _) (Value.int _ _)) _ _ _); k_dflt (refine' mul_to ?k1 ?k2 ?_; (case k2 => assumption); (case k1 => mul_fits); k_whole); intro tq_z tkq_z) | ((with_reducible show wpAny _ _ (binaryOp Operator.LShift (Value.int _ _) (Value.int _ _)) _ _ _); k_dflt (refine' shl_to ?k1 ?k2 ?k3 ?k4 ?_; (case k4 => assumption); (case k1 => omega); (case k2 => omega); (case k3 => omega); k_whole); intro tq_z tkq_z) | ((with_reducible show wpAny _ _ (binaryOp Operator.RShift (Value.int _ _) (Value.int _ _)) _ _ _); k_dflt (refine' shr_to ?k1 ?k2 ?_; (case k2 => assumption); (case k1 => omega); k_whole); intro tq_z tkq_z) | ((with_reducible show wpAny _ _ (call (Value.builtin "len") [Value.ref _]) _ _ _); k_dflt (refine' len_base ?k1 ?k2 ?k3 ?k4 ?_; (case k1 => k_asm); (case k2 => assumption); (case k3 => assumption); (case k4 => omega); k_whole); intro tq_z tkq_z) | ((with_reducible show wpAny _ _ (truthy (Value.ref _)) _ _ _); k_dflt (refine' truthy_base ?k1 ?k2 ?k3 ?k4 ?_; (case k1 => k_asm); (case k2 => assumption); (case k3 => assumption); (case k4 => omega); k_whole); intro tkq_z) | ((with_reducible show wpAny _ _ (call (Value.ref _) [Value.int _ _, Value.int _ _]) _ _ _); k_dflt (refine' use_ih2 ?key ?k1 ?k2 ?k3 ?k4 ?kK ?k5 ?kf ?kc ?ka ?ki ?kn ?kD ?b2 ?b3 ?kd ?ku ?_; (case key => assumption); (case k1 => k_asm); (case k2 => k_asm); (case k3 => k_asm); (case k4 => k_asm); (case kK => rfl); (case k5 => k_asm); (case kf => assumption); (case kc => assumption); (case ka => exact ⟨_, by assumption, by assumption⟩); (case ki => exact ⟨_, by assumption, by assumption⟩); (case kn => exact ⟨_, _, by assumption, by assumption⟩); (case kD => assumption); (case b2 => exact ⟨by omega, by omega, by omega⟩); (case b3 => omega); (case kd => ktr_room); (case ku => ktr_units); k_whole); intro hq_z tkq_z tq_z Fq_z Nq_z; (try k_sweep)) | walk1)) | (leave1; walk_say "STEP leave1"; (try dsimp only)) | fail "no step"))
    · (rename News _ _ _ _ => NL)
      (rename Fr _ _ _ _ => FL)
      refine' use_inner2 (cd := L' + 1) (ci := L' + 1 + 1 + 1) (cnn := L' + 1 + 1) (n := n) (ds := ds) (its := its) (cc := cc) (D := D) ?key B' FL X' T' rfl NL ?kf ?kc ?ka ?ki ?kn ?kD ?b1 rfl ?hd ?hu ?ret
      case kf => exact News.get NL (by k_mem)
      case kc => exact codeRec_news NL (by k_mem) hcd1 (by rw [qual5 rfl]; exact hcd2)
      case ka => (refine' ⟨_, News.get NL ?m1, ?m2⟩; (case m1 => k_mem); (case m2 => assumption))
      case ki => (refine' ⟨_, News.get NL ?m1, ?m2⟩; (case m1 => k_mem); (case m2 => assumption))
      case kn => (refine' ⟨_, _, News.get NL ?m1, ?m2⟩; (case m1 => k_mem); (case m2 => assumption))
      case kD => exact FL.keep _ _ gD
      case b1 => exact ⟨Int.le_refl _, by omega, Int.le_refl _⟩
      case hd => ktr_room
      case hu => ktr_units
      case ret =>
        intro h9 tk9 t9 F9 N9
        rw [segD_all]
        refine' hret _ _ _ (fun b o hb e => F9.keep b o (by rw [hg']; exact hideAll_get _ e hb)) ⟨tabs_same TB N9 (by k_mem) (by k_mem) (by k_mem) (by k_mem), ⟨_, rfl⟩⟩
      case key => exact inner_key2 rfl hI hlen hds hv h2 h3 _ _ _ _ _ _ _ _ _ _
    · (rename News _ _ _ _ => N9)
      (rename Fr _ _ _ _ => F9)
      have hnil : ds = [] := List.eq_nil_of_length_eq_zero (by omega)
      refine' hret _ _ _ (fun b o hb e => F9.keep b o (by rw [hg']; exact hideAll_get _ e hb)) ⟨tabs_same TB N9 (by k_mem) (by k_mem) (by k_mem) (by k_mem), ⟨_, by subst hnil; rfl⟩⟩
end Mine
end

section
open PySem PySem.W PySem.Calls PySem.Spec PyProof.Rows
set_option maxRecDepth 100000
set_option maxHeartbeats 8000000
namespace Mine
section
variable {prog : Program} {w : World} {A A₀ : Around} {s : Shared} {K : Frag} {L : Addr} {h₀ base : Heap} {m mg mb : Str → Option Value} {p : Program} {loose : List Str} {mean : ExcName → Option Value} {news : List (Addr × Obj)}
/-- enter a def of the written part; what is in news may be changed, all else is kept -/
theorem enterK {env : Env} {outer : List Env} {R : Result → Shared → Prop} {name qual : Str} {params : Arguments} {body : List Stmt} {scope : Scope} {dV kV doc pm cdv ct oc : Value} {an od : Option Addr} {osl : Array (Option Value)} {f : Addr} {args : Args} {binds : List (Str × Value)}
    (B : Below A₀ base outer h₀) (F : Fr h₀ L s.heap m) (X₀ : K.In h₀) (N : News h₀ L s.heap news) (T : Top p loose mean mg mb h₀) (hA : A.frames = some (env :: outer)) (hf : env.frame = some L) (hke : env.scope.kind = .function)
    (ho : K.lookup f = some ⟨oc, od, .func (fnOf name qual params body scope dV kV doc pm an cdv ct), osl⟩) (hcd : codeIn K cdv qual = true) (hroom : A.depth < recursionLimit)
    (hbind : BindsTo s (fnOf name qual params body scope dV kV doc pm an cdv ct) args binds) (hloc : ∀ y ∈ binds, scope.names.lookup y.1 = some .local)
    (h : ∀ g L' h₁, g = hideAll s.heap (news.map (·.1)) → Fr g L' h₁ (fun y => binds.reverse.lookup y) → News g L' h₁ news → Below A base (env :: outer) g → K.In g → Top p loose mean mg mb g → (∀ p ∈ news, p.1 < L') →
      wpAny (model prog w) (A.deeper (envOf qual scope L' f cdv)) (execs body (envOf qual scope L' f cdv))
        (fun fl s' => R (.ok (.ret (match fl with | .ret v => v | _ => .none))) s')
        (fun e s' => wpAny (model prog w) (A.deeper (envOf qual scope L' f cdv)) (leaving (envOf qual scope L' f cdv) e) (fun _ s'' => R (.error e) s'') (fun e' s'' => R (.error e') s'') s')
        { s with heap := h₁, toks := s.toks + binds.length })
    (hco : scope.isCoroutine = false) (hgen : scope.isGenerator = false) (hk : scope.kind = .function)
    (hcell : ∀ x ∈ scope.names, x.2 ≠ .cell) : codeAny (model prog w) A (.call (.ref f) args) R s :=
  enterN (cl := []) B F X₀ N T hA hf hke ((X₀.keeps F.keep) _ _ ho) rfl (codeRec_of (X₀.keeps F.keep) hcd) hroom hbind hloc h hco hgen hk hcell
end
theorem DoesT.of {w : World} {n : Nat} {f : Addr} {vs : List Value} {s : Shared} {P : Value → Heap → Prop} (h : DoesT w n f vs s P) : DoesT w n f vs s P := h
theorem c_div2 {w : World} {a b n : Int} {t1 t2 t3 : Tok} {s : Shared} (h0 : 0 ≤ a ∧ a < 1099511627776) (h2 : 1 ≤ b ∧ b < 1048576) (h3 : 0 ≤ n) : Does w 1 49 [.int a t1, .int b t2, .int n t3] s (fun v h => ∃ D, v = .ref D ∧ s.heap.get? D = none ∧ ∃ o, h.get? D = some o ∧ ∃ t1 t2 c, o = tupO #[.int (a.fdiv b) t1, .int (a.fmod b) t2] c) :=
  (d_div2 h0.1 h0.2 h2.1 h2.2 h3).mono fun _ _ ⟨D, e, f, t1, t2, c, g⟩ => ⟨D, e, f, _, g, t1, t2, c, rfl⟩
end Mine
end

section
open PySem PySem.W PySem.Calls PySem.Spec PyProof.Rows
namespace Mine
theorem digN_pre (X N k : Nat) : ∀ m, m < k → valD N ((List.range m).map fun j => ((digN X N j k : Nat) : Int)) = ((X % 2 ^ (N * m) : Nat) : Int)
  | 0, _ => by simp [valD, Nat.mod_one]
  | m + 1, h => by
    rw [List.range_succ, List.map_append, valD_append, digN_pre X N k m (by omega (splitDisjunctions := true))]
    simp only [List.map_cons, List.map_nil, valD, List.length_map, List.length_range, Int.mul_zero, Int.add_zero]
    have e : digN X N m k = X / 2 ^ (N * m) % 2 ^ N := by unfold digN; rw [if_neg (by omega (splitDisjunctions := true))]
    rw [e, pow_cast, Nat.mul_add, Nat.mul_one, Nat.pow_add, Nat.mod_mul]
    push_cast; rfl
theorem valD_digs {a n : Int} (h0 : 0 ≤ a) (hk : a ≠ 0 → 1 ≤ nbOf a n) (hz : a = 0 → nbOf a n = 0) : valD n.toNat (digsOf a n) = a := by
  by_cases ha : a = 0
  · unfold digsOf; rw [hz ha, ha]; rfl
  · have hk1 := hk ha
    unfold digsOf dig
    obtain ⟨k, e⟩ : ∃ k, nbOf a n = k + 1 := ⟨nbOf a n - 1, by omega (splitDisjunctions := true)⟩
    rw [e, List.range_succ, List.map_append, valD_append, digN_pre _ _ _ k (by omega (splitDisjunctions := true))]
    simp only [List.map_cons, List.map_nil, valD, List.length_map, List.length_range, Int.mul_zero, Int.add_zero]
    have e2 : digN a.toNat n.toNat k (k + 1) = a.toNat / 2 ^ (n.toNat * k) := by unfold digN; rw [if_pos rfl]
    rw [e2, pow_cast]
    have := Nat.mod_add_div a.toNat (2 ^ (n.toNat * k))
    have e3 : ((a.toNat % 2 ^ (n.toNat * k) + 2 ^ (n.toNat * k) * (a.toNat / 2 ^ (n.toNat * k)) : Nat) : Int) = a := by rw [this]; omega (splitDisjunctions := true)
    push_cast at e3
    rw [← pow_cast]
    exact e3
theorem digs_bound {a n : Int} (h0 : 0 ≤ a) : ∀ d ∈ digsOf a n, 0 ≤ d ∧ d ≤ a := fun d hd => by
  obtain ⟨j, _, rfl⟩ := List.mem_map.mp hd
  unfold dig
  have h1 : digN a.toNat n.toNat j (nbOf a n) ≤ a.toNat := by
    unfold digN
    split
    · exact Nat.div_le_self _ _
    · exact Nat.le_trans (Nat.mod_le _ _) (Nat.div_le_self _ _)
  omega (splitDisjunctions := true)
theorem dm_step {N : Nat} {b r d V Qv q r' : Int} (hb : 1 ≤ b) (hV : V = Qv * b + r) (hq : q = (r * 2 ^ N + d).fdiv b) (hr : r' = (r * 2 ^ N + d).fmod b) : d + 2 ^ N * V = (q + 2 ^ N * Qv) * b + r' := by
  have e := Int.fmod_add_mul_fdiv (r * 2 ^ N + d) b
  subst hV hq hr
  rw [Int.add_mul, Int.mul_add, Int.mul_comm (Int.fdiv _ _) b, Int.mul_assoc, Int.mul_comm (2 ^ N) r]
  omega (splitDisjunctions := true)
theorem dm_last {a b Qv r : Int} (hb : 1 ≤ b) (hr0 : 0 ≤ r) (hr1 : r < b) (e : a = Qv * b + r) : Qv = a.fdiv b ∧ r = a.fmod b := by
  have h1 : a / b = Qv ∧ a % b = r := by
    refine (Int.ediv_emod_unique (by omega (splitDisjunctions := true))).mpr ⟨?_, hr0, hr1⟩
    rw [e, Int.mul_comm]; omega (splitDisjunctions := true)
  rw [Int.fdiv_eq_ediv_of_nonneg _ (by omega (splitDisjunctions := true)), Int.fmod_eq_emod_of_nonneg _ (by omega (splitDisjunctions := true))]
  exact ⟨h1.1.symm, h1.2.symm⟩
theorem fmod_bound {x b : Int} (hb : 1 ≤ b) : 0 ≤ x.fmod b ∧ x.fmod b < b := by
  rw [Int.fmod_eq_emod_of_nonneg _ (by omega (splitDisjunctions := true))]
  exact ⟨Int.emod_nonneg _ (by omega (splitDisjunctions := true)), Int.emod_lt_of_pos _ (by omega (splitDisjunctions := true))⟩
theorem fdiv_bound {x b : Int} (hx : 0 ≤ x) (hb : 1 ≤ b) : 0 ≤ x.fdiv b ∧ x.fdiv b ≤ x := by
  rw [Int.fdiv_eq_ediv_of_nonneg _ (by omega (splitDisjunctions := true))]
  exact ⟨Int.ediv_nonneg hx (by omega (splitDisjunctions := true)), Int.ediv_le_self _ hx⟩
theorem bits_b {b : Int} (h2 : 1 ≤ b) (h3 : b < 1024) : 1 ≤ ((Builtin.Int.intBits b : Nat) : Int) ∧ ((Builtin.Int.intBits b : Nat) : Int) ≤ 10 := by
  have h : Builtin.Int.intBits b ≤ 10 := intBits_le_iff.mpr (by show b.natAbs < 1024; omega (splitDisjunctions := true))
  refine ⟨?_, by omega (splitDisjunctions := true)⟩
  unfold Builtin.Int.intBits
  rw [if_neg (by simp; omega (splitDisjunctions := true))]
  omega (splitDisjunctions := true)
section
variable {prog : Program} {w : World} {A : Around} {E : Value → Shared → Prop} {s : Shared} {env : Env} {h₀ : Heap} {x : Str} {body : List Stmt} {Q : Flow → Shared → Prop}
theorem rev_ind {I : Addr} {lp : Addr × Obj} (J : List Value → (Str → Option Value) → List (Addr × Obj) → Prop)
    (turn : ∀ v r m news (it : Obj) h tk, J (v :: r) m news → it.cls = .type "list_reverseiterator" → Fr h₀ env.locals h (fun y => if y = x then some v else m y) → News h₀ env.locals h ((I, it) :: news) →
      wpAny (model prog w) A (execs body env) (UnrPost h₀ env.locals { s with heap := h, toks := tk } I it (fun m' n' => lp ∈ n' ∧ J r m' n') Q) E { s with heap := h, toks := tk })
    (fin : ∀ m news h tk, J [] m news → Fr h₀ env.locals h m → News h₀ env.locals h news → Q .next { s with heap := h, toks := tk }) :
    ∀ rem m news, J rem m news → RevRest prog w A E h₀ env x body Q s I lp rem m news
  | [], m, news, hJ => RevRest.zero fun h tk F N => fin m news h tk hJ F N
  | v :: r, m, news, hJ => RevRest.succ fun it h tk hc F N => by
    refine wpAny_mono (turn v r m news it h tk hJ hc F N) (fun f s₂ p => ?_) fun _ _ e => e
    have key : UnrEnd h₀ env.locals { s with heap := h, toks := tk } I it (fun m' n' => lp ∈ n' ∧ J r m' n') s₂ → UnrEnd h₀ env.locals { s with heap := h, toks := tk } I it (fun m' n' => lp ∈ n' ∧ RevRest prog w A E h₀ env x body Q s I lp r m' n') s₂ := by
      rintro ⟨h', tk', m', news', e, F', N', ho, hm, hJ'⟩
      exact ⟨h', tk', m', news', e, F', N', ho, hm, rev_ind J turn fin r m' news' hJ'⟩
    cases f with
    | ret v => exact p
    | brk => exact p
    | next => exact key p
    | cont => exact key p
end
end Mine
end

section
open PySem PySem.W PySem.Calls PySem.Spec PyProof.Rows
set_option maxRecDepth 100000
set_option maxHeartbeats 8000000
namespace Mine
noncomputable def dmM (m₀ u : Str → Option Value) (r : Int) (tr : Tok) : Str → Option Value := fun y => if y = Str.ofString "a_digit" then u y else if y = Str.ofString "q_digit" then u y else if y = Str.ofString "r" then some (.int r tr) else m₀ y
theorem dmM_of {m₀ m' : Str → Option Value} {r : Int} {tr : Tok} (h : ∀ y, y ≠ Str.ofString "a_digit" → y ≠ Str.ofString "q_digit" → y ≠ Str.ofString "r" → m' y = m₀ y) (hr : m' (Str.ofString "r") = some (.int r tr)) : m' = dmM m₀ m' r tr := by
  funext y
  unfold dmM
  by_cases h1 : y = Str.ofString "a_digit"
  · rw [if_pos h1]
  · rw [if_neg h1]
    by_cases h2 : y = Str.ofString "q_digit"
    · rw [if_pos h2]
    · rw [if_neg h2]
      by_cases h3 : y = Str.ofString "r"
      · rw [if_pos h3, h3, hr]
      · rw [if_neg h3, h y h1 h2 h3]
section
variable {prog : Program} {w : World} {A : Around} {E : Value → Shared → Prop} {s : Shared} {env : Env} {h₀ : Heap} {body : List Stmt} {Q : Flow → Shared → Prop}
theorem dm_loop {a b n : Int} {N : Nat} {ax I lq : Addr} {vs : Array Value} {cc : Nat} {m₀ : Str → Option Value} {rest : List (Addr × Obj)} {t0 : Tok} (hN : N = n.toNat)
    (hh : A.handled = none) (F : Fr h₀ env.locals s.heap m₀) (Nw : News h₀ env.locals s.heap ((I, revObj ax ((vs.toList.length : Int) - 1)) :: (lq, W.listOf #[] 0) :: (ax, W.listOf vs cc) :: rest))
    (hof : ∀ p ∈ (lq, W.listOf #[] 0) :: (ax, W.listOf vs cc) :: rest, p.1 ≠ I) (hI : IntsAre vs.toList (digsOf a n)) (hr0 : m₀ (Str.ofString "r") = some (.int 0 t0)) (ha : 0 ≤ a) (hb : 1 ≤ b) (hlen : (digsOf a n).length ≤ 40) (hval : valD N (digsOf a n) = a)
    (turn : ∀ (d r : Int) (td tr : Tok) (vsq : Array Value) (cq : Nat) (u : Str → Option Value) (it : Obj) (h : Heap) (tk : Nat), 0 ≤ d → d ≤ a → 0 ≤ r → r < b → vsq.size ≤ 40 →
      Fr h₀ env.locals h (fun y => if y = Str.ofString "a_digit" then some (.int d td) else dmM m₀ u r tr y) → News h₀ env.locals h ((I, it) :: (lq, W.listOf vsq cq) :: (ax, W.listOf vs cc) :: rest) →
      wpAny (model prog w) A (execs body env) (UnrPost h₀ env.locals { s with heap := h, toks := tk } I it (fun m' n' => ∃ t1 t2 cq', n' = (lq, W.listOf (vsq.push (.int ((r * 2 ^ N + d).fdiv b) t1)) cq') :: (ax, W.listOf vs cc) :: rest ∧
        (∀ y, y ≠ Str.ofString "a_digit" → y ≠ Str.ofString "q_digit" → y ≠ Str.ofString "r" → m' y = m₀ y) ∧ m' (Str.ofString "r") = some (.int ((r * 2 ^ N + d).fmod b) t2)) Q) E { s with heap := h, toks := tk })
    (fin : ∀ (r : Int) (tr : Tok) (vsq : Array Value) (cq : Nat) (qs : List Int) (u : Str → Option Value) (h : Heap) (tk : Nat), 0 ≤ r → r < b → IntsAre vsq.toList qs → (∀ q ∈ qs, 0 ≤ q) → a = valD N qs.reverse * b + r → qs.length ≤ 40 →
      Fr h₀ env.locals h (dmM m₀ u r tr) → News h₀ env.locals h ((lq, W.listOf vsq cq) :: (ax, W.listOf vs cc) :: rest) → Q .next { s with heap := h, toks := tk }) :
    wpAny (model prog w) A (pyIter (.ref I)) (fun it s₂ => LoopAtV prog w A h₀ env (Str.ofString "a_digit") body Q E it s₂) E s := by
  refine iter_revUnr (vs := vs.toList) (ax := ax) (lo := W.listOf vs cc) (n := cc) (m₀ := m₀) (news := (lq, W.listOf #[] 0) :: (ax, W.listOf vs cc) :: rest) hh F Nw ?_ (List.Mem.tail _ (List.Mem.head _)) rfl rfl ?_
  · have key : ∀ l : List (Addr × Obj), (∀ p ∈ l, p.1 ≠ I) → OffI I (revObj ax ((vs.toList.length : Int) - 1)) l := fun l => by
      induction l with
      | nil => intro _; trivial
      | cons p r ih => exact fun h => ⟨.inl (h p (.head _)), ih fun q hq => h q (.tail _ hq)⟩
    exact key _ hof
  · let J : List Value → (Str → Option Value) → List (Addr × Obj) → Prop := fun rem m news => ∃ (ns done qs : List Int) (r : Int) (tr : Tok) (vsq : Array Value) (cq : Nat) (u : Str → Option Value),
      (digsOf a n).reverse = done ++ ns ∧ IntsAre rem ns ∧ IntsAre vsq.toList qs ∧ valD N done.reverse = valD N qs.reverse * b + r ∧ 0 ≤ r ∧ r < b ∧ (∀ q ∈ qs, 0 ≤ q) ∧ qs.length + ns.length ≤ 40 ∧ m = dmM m₀ u r tr ∧ news = (lq, W.listOf vsq cq) :: (ax, W.listOf vs cc) :: rest
    refine rev_ind J ?_ ?_ _ _ _ ?_
    · rintro v rem m news it h tk ⟨ns, done, qs, r, tr, vsq, cq, u, e1, hrem, hq, hV, hr1, hr2, hqs, hl, rfl, rfl⟩ hc F' N'
      cases hrem with
      | cons d td hrem =>
      rename_i ns
      have hmem : d ∈ digsOf a n := by
        have : d ∈ (digsOf a n).reverse := by rw [e1]; simp
        simpa using this
      have hdb := digs_bound ha d hmem
      have hvl : vsq.size ≤ 40 := by
        have := hq.length
        simp only [Array.length_toList, List.length_cons] at this hl
        omega
      refine wpAny_mono (turn d r td tr vsq cq u it h tk hdb.1 hdb.2 hr1 hr2 hvl F' N') (fun f s₂ p => ?_) fun _ _ e => e
      have key : UnrEnd h₀ env.locals { s with heap := h, toks := tk } I it (fun m' n' => ∃ t1 t2 cq', n' = (lq, W.listOf (vsq.push (.int ((r * 2 ^ N + d).fdiv b) t1)) cq') :: (ax, W.listOf vs cc) :: rest ∧
        (∀ y, y ≠ Str.ofString "a_digit" → y ≠ Str.ofString "q_digit" → y ≠ Str.ofString "r" → m' y = m₀ y) ∧ m' (Str.ofString "r") = some (.int ((r * 2 ^ N + d).fmod b) t2)) s₂ →
          UnrEnd h₀ env.locals { s with heap := h, toks := tk } I it (fun m' n' => (ax, W.listOf vs cc) ∈ n' ∧ J rem m' n') s₂ := by
        rintro ⟨h', tk', m', news', e, F'', N'', ho, t1, t2, cq', rfl, hm, hr⟩
        refine ⟨h', tk', m', _, e, F'', N'', ho, List.Mem.tail _ (List.Mem.head _), ns, done ++ [d], qs ++ [(r * 2 ^ N + d).fdiv b], (r * 2 ^ N + d).fmod b, t2, _, cq', m', by rw [e1]; simp, hrem, intsAre_push hq, ?_, (fmod_bound hb).1, (fmod_bound hb).2, ?_, ?_, dmM_of hm hr, rfl⟩
        · rw [List.reverse_append, List.reverse_append]
          exact dm_step hb hV rfl rfl
        · intro q hq'
          rcases List.mem_append.mp hq' with hq' | hq'
          · exact hqs q hq'
          · rw [List.mem_singleton.mp hq']
            have hp : 0 ≤ r * 2 ^ N := Int.mul_nonneg hr1 (by rw [pow_cast]; exact Int.natCast_nonneg _)
            exact (fdiv_bound (by omega) hb).1
        · simp only [List.length_append, List.length_cons, List.length_nil] at hl ⊢
          omega
      cases f with
      | ret v => exact p
      | brk => exact p
      | next => exact key p
      | cont => exact key p
    · rintro m news h tk ⟨ns, done, qs, r, tr, vsq, cq, u, e1, hrem, hq, hV, hr1, hr2, hqs, hl, rfl, rfl⟩ F' N'
      cases hrem
      rw [List.append_nil] at e1
      refine fin r tr vsq cq qs u h tk hr1 hr2 hq hqs ?_ (by simpa using hl) F' N'
      rw [← hV, ← e1, List.reverse_reverse, hval]
    · refine ⟨(digsOf a n).reverse, [], [], 0, t0, #[], 0, m₀, rfl, hI.reverse, .nil, by simp [valD], Int.le_refl _, by omega, (fun q hq => nomatch hq), by simpa using hlen, dmM_of (fun _ _ _ _ => rfl) hr0, rfl⟩
end
end Mine
end

theorem Mine.fresh18 : True := by
  w_top off
  trivial
section
open PySem PySem.W PySem.Calls PySem.Spec PyProof.Rows
set_option maxRecDepth 100000
set_option maxHeartbeats 8000000
namespace Mine
theorem ret_tup2 {g h h' : Heap} {L D : Addr} {x y : Int} {t1 t2 : Tok} {c : Nat} {news : List (Addr × Obj)} {l : List Addr} (N : News g L h' news) (hg : g = hideAll h l) (mD : (D, tupO #[.int x t1, .int y t2] c) ∈ news) (hne : D ∉ l) :
    ∃ D', Value.ref D = .ref D' ∧ h.get? D' = none ∧ ∃ o, h'.get? D' = some o ∧ (∃ its c, o.data = .seq its c) ∧ ∃ t1 t2 c, o = tupO #[.int x t1, .int y t2] c :=
  ⟨D, rfl, fresh_of N mD hg hne, _, N.get mD, ⟨_, _, rfl⟩, _, _, _, rfl⟩
theorem d_dmp {w : World} {a b : Int} {t1 t2 : Tok} {s : Shared} (h0 : 0 ≤ a) (h1 : a < 1048576) (h2 : 1 ≤ b) (h3 : b < 1024) :
    DoesT w 50 77 [.int a t1, .int b t2] s (fun v h => ∃ D, v = .ref D ∧ s.heap.get? D = none ∧ ∃ o, h.get? D = some o ∧ (∃ its c, o.data = .seq its c) ∧ ∃ t1 t2 c, o = tupO #[.int (a.fdiv b) t1, .int (a.fmod b) t2] c) := by
  intro t5 t8 c5 c8 o5 o8 TB
  intro p loose mean mg mb dp un gd cn cs fa ccd cl outer A₀ base h₀ L m Q E B F N X T hk hd hu hret
  refine wpAny_call ?_
  obtain ⟨hb1, hb2⟩ := bits_b h2 h3
  k_dflt ((refine' enterK ?k1 ?k2 ?k3 ?k4 ?k5 ?kA ?kF ?kK ?k6 ?k7 ?k8 ?k9 ?kB ?_ ?c2 ?c3 ?c4 ?c5; (case kA => exact rfl); (case kF => exact rfl); (case kK => assumption); (case k1 => k_asm); (case k2 => k_asm); (case k3 => k_asm); (case k4 => k_asm); (case k5 => k_asm); (case k6 => k_is); (case k7 => k_is); (case k8 => ktr_room); (case k9 => exact BindsTo.of_eq rfl); (case c5 => decide); (case kB => exact locs rfl); (case c2 => exact rfl); (case c3 => exact rfl); (case c4 => exact rfl); k_whole))
  intro g' L' h' hg' F' N' B' X' T' l0'
  have hgg : g' = hideAll s.heap [65, 58, c5, c8] := hg'
  have E5 : Since 65 s.heap c5 c5 := .inl rfl
  have E8 : Since 58 s.heap c8 c8 := .inl rfl
  have l0 := l0'
  k_lt l0
  simp only [tail4] at N'
  (try dsimp only)
  (try k_fold)
  (repeat' (first | (k_unfold; (try dsimp only)) | (k_end; kc_close) | (first | ((with_reducible show wpAny _ _ (eval (PySem.Expr.Name _ _) _) _ _ _); k_dflt (refine' nameX_L ?F ?v ?_ ?a ?b (by decide); (case F => k_asm); (case v => exact Eq.refl (some _)); (case a => exact Eq.refl ScopeKind.function); (case b => exact Eq.refl (some NameKind.local)); k_whole)) | ((with_reducible show wpAny _ _ (eval (PySem.Expr.BinOp (PySem.Expr.Name _ _) _ (PySem.Expr.Name _ _) _) _) _ _ _); k_dflt (refine' bin_nn ?F ?v ?v2 ?_ ?a ?b ?b2 (by decide) (by decide); (case F => k_asm); (case v => exact Eq.refl (some _)); (case a => exact Eq.refl ScopeKind.function); (case b => exact Eq.refl (some NameKind.local)); (case v2 => exact Eq.refl (some _)); (case b2 => exact Eq.refl (some NameKind.local)); k_whole)) | ((with_reducible show wpAny _ _ (eval (PySem.Expr.BinOp (PySem.Expr.Name _ _) _ _ _) _) _ _ _); k_dflt (refine' bin_n ?F ?v ?_ ?a ?b (by decide); (case F => k_asm); (case v => exact Eq.refl (some _)); (case a => exact Eq.refl ScopeKind.function); (case b => exact Eq.refl (some NameKind.local)); k_whole)) | ((with_reducible show wpAny _ _ (execs (Stmt.Assign [PySem.Expr.Name _ _] _ _ :: _) _) _ _ _); k_dflt (refine' asg ?_; k_whole)) | ((with_reducible show wpAny _ _ (storeName _ _ _) _ _ _); k_dflt (refine' st_tk ?F ?N ?_ ?a ?b; (case F => k_asm); (case N => k_asm); (case a => exact Eq.refl ScopeKind.function); (case b => exact Eq.refl (some NameKind.local)); k_whole); intro h_z tk_z F_z N_z; (try k_sweep)) | ((with_reducible show wpAny _ _ (spliced (backTo _ (starEach (PySem.Expr.Name _ _ :: _) _))) _ _ _); k_dflt (refine' sp_n ?F ?v ?_ ?a ?b (by decide); (case F => k_asm); (case v => exact Eq.refl (some _)); (case a => exact Eq.refl ScopeKind.function); (case b => exact Eq.refl (some NameKind.local)); k_whole)) | ((with_reducible show wpAny _ _ (spliced (backTo _ (starEach (PySem.Expr.Constant (PySem.Const.int _) _ _ :: _) _))) _ _ _); k_dflt (refine' sp_c ?_; k_whole)) | ((with_reducible show wpAny _ _ (call (Value.builtin "list.reverse") _) _ _ _); k_dflt (refine' kl_reverse ?F ?N rfl ?U ?z ?_; (case F => k_asm); (case N => k_asm); (case U => k_upd); (case z => (rw [sizeLine_eq]; omega))); intro hq_z Fq_z Nq_z; (try k_sweep)) | ((with_reducible show wpAny _ _ (call (Value.ref 70) _) _ _ _); k_dflt ((first | (refine' useT_base (rest := []) (d_d2i ?b1 ?b2 ?b3 ?b4 ?b5 ?b6 ?b7) ?tb ?k1 ?k2 ?k3 ?k4 ?kK ?k5 ?kne ?kd ?ku ?_; (case k5 => k_asm)) | (refine' useT_base (rest := [_]) (d_d2i ?b1 ?b2 ?b3 ?b4 ?b5 ?b6 ?b7) ?tb ?k1 ?k2 ?k3 ?k4 ?kK ?k5 ?kne ?kd ?ku ?_; (case k5 => k_asm)) | (refine' useT_base (rest := [_, _]) (d_d2i ?b1 ?b2 ?b3 ?b4 ?b5 ?b6 ?b7) ?tb ?k1 ?k2 ?k3 ?k4 ?kK ?k5 ?kne ?kd ?ku ?_; (case k5 => k_asm)) | (refine' useT_base (rest := [_, _, _]) (d_d2i ?b1 ?b2 ?b3 ?b4 ?b5 ?b6 ?b7) ?tb ?k1 ?k2 ?k3 ?k4 ?kK ?k5 ?kne ?kd ?ku ?_; (case k5 => k_asm)) | (refine' useT_base (rest := [_, _, _, _]) (d_d2i ?b1 ?b2 ?b3 ?b4 ?b5 ?b6 ?b7) ?tb ?k1 ?k2 ?k3 ?k4 ?kK ?k5 ?kne ?kd ?ku ?_; (case k5 => k_asm)) | (refine' useT_base (rest := [_, _, _, _, _]) (d_d2i ?b1 ?b2 ?b3 ?b4 ?b5 ?b6 ?b7) ?tb ?k1 ?k2 ?k3 ?k4 ?kK ?k5 ?kne ?kd ?ku ?_; (case k5 => k_asm)) | (refine' useT_base (rest := [_, _, _, _, _, _]) (d_d2i ?b1 ?b2 ?b3 ?b4 ?b5 ?b6 ?b7) ?tb ?k1 ?k2 ?k3 ?k4 ?kK ?k5 ?kne ?kd ?ku ?_; (case k5 => k_asm))); (case k1 => k_asm); (case k2 => k_asm); (case k3 => k_asm); (case k4 => k_asm); (case tb => assumption); (case kK => rfl); (case b1 => exact News.get (by k_asm) (by k_mem)); (case b2 => assumption); (case b3 => assumption); (case b4 => assumption); (case b5 => assumption); (case b6 => omega); (case b7 => omega); (case kne => ((repeat (refine' List.forall_mem_cons.mpr ⟨⟨neN ?_, neN ?_, neN ?_, neN ?_⟩, ?_⟩; (iterate 4 (first | (dsimp only; omega) | omega)))); exact List.forall_mem_nil _)); (case kd => ktr_room); (case ku => ktr_units); k_whole); intro v9_z h9_z tk9_z t59_z t89_z c59_z c89_z o59_z o89_z F9_z N9_z TB9_z n59_z n89_z S59_z S89_z hP9_z; obtain ⟨E59_z, E89_z⟩ := since_step (by assumption) (by assumption) (by assumption) (by k_mem) (by k_mem) (by k_mem) (by k_mem) (by assumption) (by assumption) S59_z S89_z; clear S59_z S89_z; replace n59_z := allNe_of n59_z; replace n89_z := allNe_of n89_z; simp only [tail4, List.cons_append, List.nil_append] at N9_z; simp only [AllNe, and_true] at n59_z n89_z; obtain ⟨t91_z, e9_z⟩ := hP9_z; subst e9_z; (try k_sweep)) | ((with_reducible show wpAny _ _ (call (Value.ref 49) _) _ _ _); k_dflt (refine' use1 (c_div2 ?a1 ?a2 ?a3) ?k1 ?k2 ?k3 ?k4 ?kK ?k5 ?kd ?ku ?_; (case k1 => k_asm); (case k2 => k_asm); (case k3 => k_asm); (case k4 => k_asm); (case kK => rfl); (case k5 => k_asm); (case a1 => exact ⟨by omega, by omega⟩); (case a2 => exact ⟨by omega, by omega⟩); (case a3 => omega); (case kd => ktr_room); (case ku => ktr_units); k_whole); intro D9_z o9_z h9_z tk9_z F9_z N9_z nD9_z hP9_z; simp only [AllNe, and_true] at nD9_z; obtain ⟨t91_z, t92_z, c9_z, e9_z⟩ := hP9_z; subst e9_z; (try k_sweep)) | ((with_reducible show wpAny _ _ (call (Value.ref 63) _) _ _ _); k_dflt ((first | (refine' useT1 (rest := []) (d_i2d ?a1 ?a2 ?a3 ?a4) ?tb ?k1 ?k2 ?k3 ?k4 ?kK ?k5 ?kne ?kd ?ku ?_; (case k5 => k_asm)) | (refine' useT1 (rest := [_]) (d_i2d ?a1 ?a2 ?a3 ?a4) ?tb ?k1 ?k2 ?k3 ?k4 ?kK ?k5 ?kne ?kd ?ku ?_; (case k5 => k_asm)) | (refine' useT1 (rest := [_, _]) (d_i2d ?a1 ?a2 ?a3 ?a4) ?tb ?k1 ?k2 ?k3 ?k4 ?kK ?k5 ?kne ?kd ?ku ?_; (case k5 => k_asm)) | (refine' useT1 (rest := [_, _, _]) (d_i2d ?a1 ?a2 ?a3 ?a4) ?tb ?k1 ?k2 ?k3 ?k4 ?kK ?k5 ?kne ?kd ?ku ?_; (case k5 => k_asm)) | (refine' useT1 (rest := [_, _, _, _]) (d_i2d ?a1 ?a2 ?a3 ?a4) ?tb ?k1 ?k2 ?k3 ?k4 ?kK ?k5 ?kne ?kd ?ku ?_; (case k5 => k_asm)) | (refine' useT1 (rest := [_, _, _, _, _]) (d_i2d ?a1 ?a2 ?a3 ?a4) ?tb ?k1 ?k2 ?k3 ?k4 ?kK ?k5 ?kne ?kd ?ku ?_; (case k5 => k_asm)) | (refine' useT1 (rest := [_, _, _, _, _, _]) (d_i2d ?a1 ?a2 ?a3 ?a4) ?tb ?k1 ?k2 ?k3 ?k4 ?kK ?k5 ?kne ?kd ?ku ?_; (case k5 => k_asm))); (case k1 => k_asm); (case k2 => k_asm); (case k3 => k_asm); (case k4 => k_asm); (case tb => assumption); (case kK => rfl); (case a1 => omega); (case a2 => omega); (case a3 => omega); (case a4 => omega); (case kne => ((repeat (refine' List.forall_mem_cons.mpr ⟨⟨neN ?_, neN ?_, neN ?_, neN ?_⟩, ?_⟩; (iterate 4 (first | (dsimp only; omega) | omega)))); exact List.forall_mem_nil _)); (case kd => ktr_room); (case ku => ktr_units); k_whole); intro D9_z o9_z h9_z tk9_z t59_z t89_z c59_z c89_z o59_z o89_z F9_z N9_z TB9_z n59_z n89_z nD9_z S59_z S89_z hP9_z; obtain ⟨E59_z, E89_z⟩ := since_step (by assumption) (by assumption) (by assumption) (by k_mem) (by k_mem) (by k_mem) (by k_mem) (by assumption) (by assumption) S59_z S89_z; clear S59_z S89_z; simp only [tail4, List.cons_append, List.nil_append] at N9_z nD9_z; simp only [AllNe, and_true] at n59_z n89_z nD9_z; obtain ⟨vs9_z, cc9_z, e9_z, hI9_z⟩ := hP9_z; subst e9_z; (have hIl9_z := hI9_z.length); (try k_sweep)) | walk1) | (dsimp only; (first | ((with_reducible show wpAny _ _ (eval (PySem.Expr.Name _ _) _) _ _ _); k_dflt (refine' nameX_L ?F ?v ?_ ?a ?b (by decide); (case F => k_asm); (case v => exact Eq.refl (some _)); (case a => exact Eq.refl ScopeKind.function); (case b => exact Eq.refl (some NameKind.local)); k_whole)) | ((with_reducible show wpAny _ _ (eval (PySem.Expr.BinOp (PySem.Expr.Name _ _) _ (PySem.Expr.Name _ _) _) _) _ _ _); k_dflt (refine' bin_nn ?F ?v ?v2 ?_ ?a ?b ?b2 (by decide) (by decide); (case F => k_asm); (case v => exact Eq.refl (some _)); (case a => exact Eq.refl ScopeKind.function); (case b => exact Eq.refl (some NameKind.local)); (case v2 => exact Eq.refl (some _)); (case b2 => exact Eq.refl (some NameKind.local)); k_whole)) | ((with_reducible show wpAny _ _ (eval (PySem.Expr.BinOp (PySem.Expr.Name _ _) _ _ _) _) _ _ _); k_dflt (refine' bin_n ?F ?v ?_ ?a ?b (by decide); (case F => k_asm); (case v => exact Eq.refl (some _)); (case a => exact Eq.refl ScopeKind.function); (case b => exact Eq.refl (some NameKind.local)); k_whole)) | ((with_reducible show wpAny _ _ (execs (Stmt.Assign [PySem.Expr.Name _ _] _ _ :: _) _) _ _ _); k_dflt (refine' asg ?_; k_whole)) | ((with_reducible show wpAny _ _ (storeName _ _ _) _ _ _); k_dflt (refine' st_tk ?F ?N ?_ ?a ?b; (case F => k_asm); (case N => k_asm); (case a => exact Eq.refl ScopeKind.function); (case b => exact Eq.refl (some NameKind.local)); k_whole); intro h_z tk_z F_z N_z; (try k_sweep)) | ((with_reducible show wpAny _ _ (spliced (backTo _ (starEach (PySem.Expr.Name _ _ :: _) _))) _ _ _); k_dflt (refine' sp_n ?F ?v ?_ ?a ?b (by decide); (case F => k_asm); (case v => exact Eq.refl (some _)); (case a => exact Eq.refl ScopeKind.function); (case b => exact Eq.refl (some NameKind.local)); k_whole)) | ((with_reducible show wpAny _ _ (spliced (backTo _ (starEach (PySem.Expr.Constant (PySem.Const.int _) _ _ :: _) _))) _ _ _); k_dflt (refine' sp_c ?_; k_whole)) | ((with_reducible show wpAny _ _ (call (Value.builtin "list.reverse") _) _ _ _); k_dflt (refine' kl_reverse ?F ?N rfl ?U ?z ?_; (case F => k_asm); (case N => k_asm); (case U => k_upd); (case z => (rw [sizeLine_eq]; omega))); intro hq_z Fq_z Nq_z; (try k_sweep)) | ((with_reducible show wpAny _ _ (call (Value.ref 70) _) _ _ _); k_dflt ((first | (refine' useT_base (rest := []) (d_d2i ?b1 ?b2 ?b3 ?b4 ?b5 ?b6 ?b7) ?tb ?k1 ?k2 ?k3 ?k4 ?kK ?k5 ?kne ?kd ?ku ?_; (case k5 => k_asm)) | (refine' useT_base (rest := [_]) (d_d2i ?b1 ?b2 ?b3 ?b4 ?b5 ?b6 ?b7) ?tb ?k1 ?k2 ?k3 ?k4 ?kK ?k5 ?kne ?kd ?ku ?_; (case k5 => k_asm)) | (refine' useT_base (rest := [_, _]) (d_d2i ?b1 ?b2 ?b3 ?b4 ?b5 ?b6 ?b7) ?tb ?k1 ?k2 ?k3 ?k4 ?kK ?k5 ?kne ?kd ?ku ?_; (case k5 => k_asm)) | (refine' useT_base (rest := [_, _, _]) (d_d2i ?b1 ?b2 ?b3 ?b4 ?b5 ?b6 ?b7) ?tb ?k1 ?k2 ?k3 ?k4 ?kK ?k5 ?kne ?kd ?ku ?_; (case k5 => k_asm)) | (refine' useT_base (rest := [_, _, _, _]) (d_d2i ?b1 ?b2 ?b3 ?b4 ?b5 ?b6 ?b7) ?tb ?k1 ?k2 ?k3 ?k4 ?kK ?k5 ?kne ?kd ?ku ?_; (case k5 => k_asm)) | (refine' useT_base (rest := [_, _, _, _, _]) (d_d2i ?b1 ?b2 ?b3 ?b4 ?b5 ?b6 ?b7) ?tb ?k1 ?k2 ?k3 ?k4 ?kK ?k5 ?kne ?kd ?ku ?_; (case k5 => k_asm)) | (refine' useT_base (rest := [_, _, _, _, _, _]) (d_d2i ?b1 ?b2 ?b3 ?b4 ?b5 ?b6 ?b7) ?tb ?k1 ?k2 ?k3 ?k4 ?kK ?k5 ?kne ?kd ?ku ?_; (case k5 => k_asm))); (case k1 => k_asm); (case k2 => k_asm); (case k3 => k_asm); (case k4 => k_asm); (case tb => assumption); (case kK => rfl); (case b1 => exact News.get (by k_asm) (by k_mem)); (case b2 => assumption); (case b3 => assumption); (case b4 => assumption); (case b5 => assumption); (case b6 => omega); (case b7 => omega); (case kne => ((repeat (refine' List.forall_mem_cons.mpr ⟨⟨neN ?_, neN ?_, neN ?_, neN ?_⟩, ?_⟩; (iterate 4 (first | (dsimp only; omega) | omega)))); exact List.forall_mem_nil _)); (case kd => ktr_room); (case ku => ktr_units); k_whole); intro v9_z h9_z tk9_z t59_z t89_z c59_z c89_z o59_z o89_z F9_z N9_z TB9_z n59_z n89_z S59_z S89_z hP9_z; obtain ⟨E59_z, E89_z⟩ := since_step (by assumption) (by assumption) (by assumption) (by k_mem) (by k_mem) (by k_mem) (by k_mem) (by assumption) (by assumption) S59_z S89_z; clear S59_z S89_z; replace n59_z := allNe_of n59_z; replace n89_z := allNe_of n89_z; simp only [tail4, List.cons_append, List.nil_append] at N9_z; simp only [AllNe, and_true] at n59_z n89_z; obtain ⟨t91_z, e9_z⟩ := hP9_z; subst e9_z; (try k_sweep)) | ((with_reducible show wpAny _ _ (call (Value.ref 49) _) _ _ _); k_dflt (refine' use1 (c_div2 ?a1 ?a2 ?a3) ?k1 ?k2 ?k3 ?k4 ?kK ?k5 ?kd ?ku ?_; (case k1 => k_asm); (case k2 => k_asm); (case k3 => k_asm); (case k4 => k_asm); (case kK => rfl); (case k5 => k_asm); (case a1 => exact ⟨by omega, by omega⟩); (case a2 => exact ⟨by omega, by omega⟩); (case a3 => omega); (case kd => ktr_room); (case ku => ktr_units); k_whole); intro D9_z o9_z h9_z tk9_z F9_z N9_z nD9_z hP9_z; simp only [AllNe, and_true] at nD9_z; obtain ⟨t91_z, t92_z, c9_z, e9_z⟩ := hP9_z; subst e9_z; (try k_sweep)) | ((with_reducible show wpAny _ _ (call (Value.ref 63) _) _ _ _); k_dflt ((first | (refine' useT1 (rest := []) (d_i2d ?a1 ?a2 ?a3 ?a4) ?tb ?k1 ?k2 ?k3 ?k4 ?kK ?k5 ?kne ?kd ?ku ?_; (case k5 => k_asm)) | (refine' useT1 (rest := [_]) (d_i2d ?a1 ?a2 ?a3 ?a4) ?tb ?k1 ?k2 ?k3 ?k4 ?kK ?k5 ?kne ?kd ?ku ?_; (case k5 => k_asm)) | (refine' useT1 (rest := [_, _]) (d_i2d ?a1 ?a2 ?a3 ?a4) ?tb ?k1 ?k2 ?k3 ?k4 ?kK ?k5 ?kne ?kd ?ku ?_; (case k5 => k_asm)) | (refine' useT1 (rest := [_, _, _]) (d_i2d ?a1 ?a2 ?a3 ?a4) ?tb ?k1 ?k2 ?k3 ?k4 ?kK ?k5 ?kne ?kd ?ku ?_; (case k5 => k_asm)) | (refine' useT1 (rest := [_, _, _, _]) (d_i2d ?a1 ?a2 ?a3 ?a4) ?tb ?k1 ?k2 ?k3 ?k4 ?kK ?k5 ?kne ?kd ?ku ?_; (case k5 => k_asm)) | (refine' useT1 (rest := [_, _, _, _, _]) (d_i2d ?a1 ?a2 ?a3 ?a4) ?tb ?k1 ?k2 ?k3 ?k4 ?kK ?k5 ?kne ?kd ?ku ?_; (case k5 => k_asm)) | (refine' useT1 (rest := [_, _, _, _, _, _]) (d_i2d ?a1 ?a2 ?a3 ?a4) ?tb ?k1 ?k2 ?k3 ?k4 ?kK ?k5 ?kne ?kd ?ku ?_; (case k5 => k_asm))); (case k1 => k_asm); (case k2 => k_asm); (case k3 => k_asm); (case k4 => k_asm); (case tb => assumption); (case kK => rfl); (case a1 => omega); (case a2 => omega); (case a3 => omega); (case a4 => omega); (case kne => ((repeat (refine' List.forall_mem_cons.mpr ⟨⟨neN ?_, neN ?_, neN ?_, neN ?_⟩, ?_⟩; (iterate 4 (first | (dsimp only; omega) | omega)))); exact List.forall_mem_nil _)); (case kd => ktr_room); (case ku => ktr_units); k_whole); intro D9_z o9_z h9_z tk9_z t59_z t89_z c59_z c89_z o59_z o89_z F9_z N9_z TB9_z n59_z n89_z nD9_z S59_z S89_z hP9_z; obtain ⟨E59_z, E89_z⟩ := since_step (by assumption) (by assumption) (by assumption) (by k_mem) (by k_mem) (by k_mem) (by k_mem) (by assumption) (by assumption) S59_z S89_z; clear S59_z S89_z; simp only [tail4, List.cons_append, List.nil_append] at N9_z nD9_z; simp only [AllNe, and_true] at n59_z n89_z nD9_z; obtain ⟨vs9_z, cc9_z, e9_z, hI9_z⟩ := hP9_z; subst e9_z; (have hIl9_z := hI9_z.length); (try k_sweep)) | walk1)) | (leave1; walk_say "STEP leave1"; (try dsimp only)) | fail "no step"))
  (rename News _ _ _ _ => NL)
  (rename Fr _ _ _ _ => FL)
  (rename IntsAre _ _ => IL)
  obtain ⟨hk0, hk1, hk2, hk3⟩ := nb_facts (a := a) (n := ((Builtin.Int.intBits b : Nat) : Int)) h0 h1 hb1
  have hdl : (digsOf a ((Builtin.Int.intBits b : Nat) : Int)).length ≤ 40 := by
    unfold digsOf nbOf; rw [List.length_map, List.length_range]; omega
  have hval := valD_digs (a := a) (n := ((Builtin.Int.intBits b : Nat) : Int)) h0 (fun h => by unfold nbOf; have := hk2 h; omega) (fun h => by unfold nbOf; have := hk3 h; omega)
  refine dm_loop (b := b) rfl rfl FL NL ?hof IL (by rfl) h0 h2 hdl hval ?turn ?fin
  case hof => k_all
  case turn =>
    intro d r td tr vsq cq u it h9 tk9 hd0 hd1 hr0 hr1 hvs F9 N9
    clear NL FL
    unfold dmM at F9
    have hpow : (2 : Int) ^ ((Builtin.Int.intBits b : Nat) : Int).toNat ≤ 1024 := by
      rw [pow_cast]
      have : 2 ^ ((Builtin.Int.intBits b : Nat) : Int).toNat ≤ 2 ^ 10 := Nat.pow_le_pow_right (by decide) (by omega)
      omega
    have hpow0 : (0 : Int) ≤ 2 ^ ((Builtin.Int.intBits b : Nat) : Int).toNat := by rw [pow_cast]; exact Int.natCast_nonneg _
    have hrb : r * 2 ^ ((Builtin.Int.intBits b : Nat) : Int).toNat ≤ 1048576 := by
      have e1 : r * 2 ^ ((Builtin.Int.intBits b : Nat) : Int).toNat ≤ r * 1024 := Int.mul_le_mul_of_nonneg_left hpow hr0
      omega
    have hrb0 : 0 ≤ r * 2 ^ ((Builtin.Int.intBits b : Nat) : Int).toNat := Int.mul_nonneg hr0 hpow0
    (repeat' (first | (k_unfold; (try dsimp only)) | (k_end; kc_close) | (first | ((with_reducible show wpAny _ _ (eval (PySem.Expr.Name _ _) _) _ _ _); k_dflt (refine' nameX_L ?F ?v ?_ ?a ?b (by decide); (case F => k_asm); (case v => exact Eq.refl (some _)); (case a => exact Eq.refl ScopeKind.function); (case b => exact Eq.refl (some NameKind.local)); k_whole)) | ((with_reducible show wpAny _ _ (eval (PySem.Expr.BinOp (PySem.Expr.Name _ _) _ (PySem.Expr.Name _ _) _) _) _ _ _); k_dflt (refine' bin_nn ?F ?v ?v2 ?_ ?a ?b ?b2 (by decide) (by decide); (case F => k_asm); (case v => exact Eq.refl (some _)); (case a => exact Eq.refl ScopeKind.function); (case b => exact Eq.refl (some NameKind.local)); (case v2 => exact Eq.refl (some _)); (case b2 => exact Eq.refl (some NameKind.local)); k_whole)) | ((with_reducible show wpAny _ _ (eval (PySem.Expr.BinOp (PySem.Expr.Name _ _) _ _ _) _) _ _ _); k_dflt (refine' bin_n ?F ?v ?_ ?a ?b (by decide); (case F => k_asm); (case v => exact Eq.refl (some _)); (case a => exact Eq.refl ScopeKind.function); (case b => exact Eq.refl (some NameKind.local)); k_whole)) | ((with_reducible show wpAny _ _ (execs (Stmt.Assign [PySem.Expr.Name _ _] _ _ :: _) _) _ _ _); k_dflt (refine' asg ?_; k_whole)) | ((with_reducible show wpAny _ _ (storeName _ _ _) _ _ _); k_dflt (refine' st_tk ?F ?N ?_ ?a ?b; (case F => k_asm); (case N => k_asm); (case a => exact Eq.refl ScopeKind.function); (case b => exact Eq.refl (some NameKind.local)); k_whole); intro h_z tk_z F_z N_z; (try k_sweep)) | ((with_reducible show wpAny _ _ (spliced (backTo _ (starEach (PySem.Expr.Name _ _ :: _) _))) _ _ _); k_dflt (refine' sp_n ?F ?v ?_ ?a ?b (by decide); (case F => k_asm); (case v => exact Eq.refl (some _)); (case a => exact Eq.refl ScopeKind.function); (case b => exact Eq.refl (some NameKind.local)); k_whole)) | ((with_reducible show wpAny _ _ (spliced (backTo _ (starEach (PySem.Expr.Constant (PySem.Const.int _) _ _ :: _) _))) _ _ _); k_dflt (refine' sp_c ?_; k_whole)) | ((with_reducible show wpAny _ _ (call (Value.builtin "list.reverse") _) _ _ _); k_dflt (refine' kl_reverse ?F ?N rfl ?U ?z ?_; (case F => k_asm); (case N => k_asm); (case U => k_upd); (case z => (rw [sizeLine_eq]; omega))); intro hq_z Fq_z Nq_z; (try k_sweep)) | ((with_reducible show wpAny _ _ (call (Value.ref 70) _) _ _ _); k_dflt ((first | (refine' useT_base (rest := []) (d_d2i ?b1 ?b2 ?b3 ?b4 ?b5 ?b6 ?b7) ?tb ?k1 ?k2 ?k3 ?k4 ?kK ?k5 ?kne ?kd ?ku ?_; (case k5 => k_asm)) | (refine' useT_base (rest := [_]) (d_d2i ?b1 ?b2 ?b3 ?b4 ?b5 ?b6 ?b7) ?tb ?k1 ?k2 ?k3 ?k4 ?kK ?k5 ?kne ?kd ?ku ?_; (case k5 => k_asm)) | (refine' useT_base (rest := [_, _]) (d_d2i ?b1 ?b2 ?b3 ?b4 ?b5 ?b6 ?b7) ?tb ?k1 ?k2 ?k3 ?k4 ?kK ?k5 ?kne ?kd ?ku ?_; (case k5 => k_asm)) | (refine' useT_base (rest := [_, _, _]) (d_d2i ?b1 ?b2 ?b3 ?b4 ?b5 ?b6 ?b7) ?tb ?k1 ?k2 ?k3 ?k4 ?kK ?k5 ?kne ?kd ?ku ?_; (case k5 => k_asm)) | (refine' useT_base (rest := [_, _, _, _]) (d_d2i ?b1 ?b2 ?b3 ?b4 ?b5 ?b6 ?b7) ?tb ?k1 ?k2 ?k3 ?k4 ?kK ?k5 ?kne ?kd ?ku ?_; (case k5 => k_asm)) | (refine' useT_base (rest := [_, _, _, _, _]) (d_d2i ?b1 ?b2 ?b3 ?b4 ?b5 ?b6 ?b7) ?tb ?k1 ?k2 ?k3 ?k4 ?kK ?k5 ?kne ?kd ?ku ?_; (case k5 => k_asm)) | (refine' useT_base (rest := [_, _, _, _, _, _]) (d_d2i ?b1 ?b2 ?b3 ?b4 ?b5 ?b6 ?b7) ?tb ?k1 ?k2 ?k3 ?k4 ?kK ?k5 ?kne ?kd ?ku ?_; (case k5 => k_asm))); (case k1 => k_asm); (case k2 => k_asm); (case k3 => k_asm); (case k4 => k_asm); (case tb => assumption); (case kK => rfl); (case b1 => exact News.get (by k_asm) (by k_mem)); (case b2 => assumption); (case b3 => assumption); (case b4 => assumption); (case b5 => assumption); (case b6 => omega); (case b7 => omega); (case kne => ((repeat (refine' List.forall_mem_cons.mpr ⟨⟨neN ?_, neN ?_, neN ?_, neN ?_⟩, ?_⟩; (iterate 4 (first | (dsimp only; omega) | omega)))); exact List.forall_mem_nil _)); (case kd => ktr_room); (case ku => ktr_units); k_whole); intro v9_z h9_z tk9_z t59_z t89_z c59_z c89_z o59_z o89_z F9_z N9_z TB9_z n59_z n89_z S59_z S89_z hP9_z; obtain ⟨E59_z, E89_z⟩ := since_step (by assumption) (by assumption) (by assumption) (by k_mem) (by k_mem) (by k_mem) (by k_mem) (by assumption) (by assumption) S59_z S89_z; clear S59_z S89_z; replace n59_z := allNe_of n59_z; replace n89_z := allNe_of n89_z; simp only [tail4, List.cons_append, List.nil_append] at N9_z; simp only [AllNe, and_true] at n59_z n89_z; obtain ⟨t91_z, e9_z⟩ := hP9_z; subst e9_z; (try k_sweep)) | ((with_reducible show wpAny _ _ (call (Value.ref 49) _) _ _ _); k_dflt (refine' use1 (c_div2 ?a1 ?a2 ?a3) ?k1 ?k2 ?k3 ?k4 ?kK ?k5 ?kd ?ku ?_; (case k1 => k_asm); (case k2 => k_asm); (case k3 => k_asm); (case k4 => k_asm); (case kK => rfl); (case k5 => k_asm); (case a1 => exact ⟨by omega, by omega⟩); (case a2 => exact ⟨by omega, by omega⟩); (case a3 => omega); (case kd => ktr_room); (case ku => ktr_units); k_whole); intro D9_z o9_z h9_z tk9_z F9_z N9_z nD9_z hP9_z; simp only [AllNe, and_true] at nD9_z; obtain ⟨t91_z, t92_z, c9_z, e9_z⟩ := hP9_z; subst e9_z; (try k_sweep)) | ((with_reducible show wpAny _ _ (call (Value.ref 63) _) _ _ _); k_dflt ((first | (refine' useT1 (rest := []) (d_i2d ?a1 ?a2 ?a3 ?a4) ?tb ?k1 ?k2 ?k3 ?k4 ?kK ?k5 ?kne ?kd ?ku ?_; (case k5 => k_asm)) | (refine' useT1 (rest := [_]) (d_i2d ?a1 ?a2 ?a3 ?a4) ?tb ?k1 ?k2 ?k3 ?k4 ?kK ?k5 ?kne ?kd ?ku ?_; (case k5 => k_asm)) | (refine' useT1 (rest := [_, _]) (d_i2d ?a1 ?a2 ?a3 ?a4) ?tb ?k1 ?k2 ?k3 ?k4 ?kK ?k5 ?kne ?kd ?ku ?_; (case k5 => k_asm)) | (refine' useT1 (rest := [_, _, _]) (d_i2d ?a1 ?a2 ?a3 ?a4) ?tb ?k1 ?k2 ?k3 ?k4 ?kK ?k5 ?kne ?kd ?ku ?_; (case k5 => k_asm)) | (refine' useT1 (rest := [_, _, _, _]) (d_i2d ?a1 ?a2 ?a3 ?a4) ?tb ?k1 ?k2 ?k3 ?k4 ?kK ?k5 ?kne ?kd ?ku ?_; (case k5 => k_asm)) | (refine' useT1 (rest := [_, _, _, _, _]) (d_i2d ?a1 ?a2 ?a3 ?a4) ?tb ?k1 ?k2 ?k3 ?k4 ?kK ?k5 ?kne ?kd ?ku ?_; (case k5 => k_asm)) | (refine' useT1 (rest := [_, _, _, _, _, _]) (d_i2d ?a1 ?a2 ?a3 ?a4) ?tb ?k1 ?k2 ?k3 ?k4 ?kK ?k5 ?kne ?kd ?ku ?_; (case k5 => k_asm))); (case k1 => k_asm); (case k2 => k_asm); (case k3 => k_asm); (case k4 => k_asm); (case tb => assumption); (case kK => rfl); (case a1 => omega); (case a2 => omega); (case a3 => omega); (case a4 => omega); (case kne => ((repeat (refine' List.forall_mem_cons.mpr ⟨⟨neN ?_, neN ?_, neN ?_, neN ?_⟩, ?_⟩; (iterate 4 (first | (dsimp only; omega) | omega)))); exact List.forall_mem_nil _)); (case kd => ktr_room); (case ku => ktr_units); k_whole); intro D9_z o9_z h9_z tk9_z t59_z t89_z c59_z c89_z o59_z o89_z F9_z N9_z TB9_z n59_z n89_z nD9_z S59_z S89_z hP9_z; obtain ⟨E59_z, E89_z⟩ := since_step (by assumption) (by assumption) (by assumption) (by k_mem) (by k_mem) (by k_mem) (by k_mem) (by assumption) (by assumption) S59_z S89_z; clear S59_z S89_z; simp only [tail4, List.cons_append, List.nil_append] at N9_z nD9_z; simp only [AllNe, and_true] at n59_z n89_z nD9_z; obtain ⟨vs9_z, cc9_z, e9_z, hI9_z⟩ := hP9_z; subst e9_z; (have hIl9_z := hI9_z.length); (try k_sweep)) | walk1) | (dsimp only; (first | ((with_reducible show wpAny _ _ (eval (PySem.Expr.Name _ _) _) _ _ _); k_dflt (refine' nameX_L ?F ?v ?_ ?a ?b (by decide); (case F => k_asm); (case v => exact Eq.refl (some _)); (case a => exact Eq.refl ScopeKind.function); (case b => exact Eq.refl (some NameKind.local)); k_whole)) | ((with_reducible show wpAny _ _ (eval (PySem.Expr.BinOp (PySem.Expr.Name _ _) _ (PySem.Expr.Name _ _) _) _) _ _ _); k_dflt (refine' bin_nn ?F ?v ?v2 ?_ ?a ?b ?b2 (by decide) (by decide); (case F => k_asm); (case v => exact Eq.refl (some _)); (case a => exact Eq.refl ScopeKind.function); (case b => exact Eq.refl (some NameKind.local)); (case v2 => exact Eq.refl (some _)); (case b2 => exact Eq.refl (some NameKind.local)); k_whole)) | ((with_reducible show wpAny _ _ (eval (PySem.Expr.BinOp (PySem.Expr.Name _ _) _ _ _) _) _ _ _); k_dflt (refine' bin_n ?F ?v ?_ ?a ?b (by decide); (case F => k_asm); (case v => exact Eq.refl (some _)); (case a => exact Eq.refl ScopeKind.function); (case b => exact Eq.refl (some NameKind.local)); k_whole)) | ((with_reducible show wpAny _ _ (execs (Stmt.Assign [PySem.Expr.Name _ _] _ _ :: _) _) _ _ _); k_dflt (refine' asg ?_; k_whole)) | ((with_reducible show wpAny _ _ (storeName _ _ _) _ _ _); k_dflt (refine' st_tk ?F ?N ?_ ?a ?b; (case F => k_asm); (case N => k_asm); (case a => exact Eq.refl ScopeKind.function); (case b => exact Eq.refl (some NameKind.local)); k_whole); intro h_z tk_z F_z N_z; (try k_sweep)) | ((with_reducible show wpAny _ _ (spliced (backTo _ (starEach (PySem.Expr.Name _ _ :: _) _))) _ _ _); k_dflt (refine' sp_n ?F ?v ?_ ?a ?b (by decide); (case F => k_asm); (case v => exact Eq.refl (some _)); (case a => exact Eq.refl ScopeKind.function); (case b => exact Eq.refl (some NameKind.local)); k_whole)) | ((with_reducible show wpAny _ _ (spliced (backTo _ (starEach (PySem.Expr.Constant (PySem.Const.int _) _ _ :: _) _))) _ _ _); k_dflt (refine' sp_c ?_; k_whole)) | ((with_reducible show wpAny _ _ (call (Value.builtin "list.reverse") _) _ _ _); k_dflt (refine' kl_reverse ?F ?N rfl ?U ?z ?_; (case F => k_asm); (case N => k_asm); (case U => k_upd); (case z => (rw [sizeLine_eq]; omega))); intro hq_z Fq_z Nq_z; (try k_sweep)) | ((with_reducible show wpAny _ _ (call (Value.ref 70) _) _ _ _); k_dflt ((first | (refine' useT_base (rest := []) (d_d2i ?b1 ?b2 ?b3 ?b4 ?b5 ?b6 ?b7) ?tb ?k1 ?k2 ?k3 ?k4 ?kK ?k5 ?kne ?kd ?ku ?_; (case k5 => k_asm)) | (refine' useT_base (rest := [_]) (d_d2i ?b1 ?b2 ?b3 ?b4 ?b5 ?b6 ?b7) ?tb ?k1 ?k2 ?k3 ?k4 ?kK ?k5 ?kne ?kd ?ku ?_; (case k5 => k_asm)) | (refine' useT_base (rest := [_, _]) (d_d2i ?b1 ?b2 ?b3 ?b4 ?b5 ?b6 ?b7) ?tb ?k1 ?k2 ?k3 ?k4 ?kK ?k5 ?kne ?kd ?ku ?_; (case k5 => k_asm)) | (refine' useT_base (rest := [_, _, _]) (d_d2i ?b1 ?b2 ?b3 ?b4 ?b5 ?b6 ?b7) ?tb ?k1 ?k2 ?k3 ?k4 ?kK ?k5 ?kne ?kd ?ku ?_; (case k5 => k_asm)) | (refine' useT_base (rest := [_, _, _, _]) (d_d2i ?b1 ?b2 ?b3 ?b4 ?b5 ?b6 ?b7) ?tb ?k1 ?k2 ?k3 ?k4 ?kK ?k5 ?kne ?kd ?ku ?_; (case k5 => k_asm)) | (refine' useT_base (rest := [_, _, _, _, _]) (d_d2i ?b1 ?b2 ?b3 ?b4 ?b5 ?b6 ?b7) ?tb ?k1 ?k2 ?k3 ?k4 ?kK ?k5 ?kne ?kd ?ku ?_; (case k5 => k_asm)) | (refine' useT_base (rest := [_, _, _, _, _, _]) (d_d2i ?b1 ?b2 ?b3 ?b4 ?b5 ?b6 ?b7) ?tb ?k1 ?k2 ?k3 ?k4 ?kK ?k5 ?kne ?kd ?ku ?_; (case k5 => k_asm))); (case k1 => k_asm); (case k2 => k_asm); (case k3 => k_asm); (case k4 => k_asm); (case tb => assumption); (case kK => rfl); (case b1 => exact News.get (by k_asm) (by k_mem)); (case b2 => assumption); (case b3 => assumption); (case b4 => assumption); (case b5 => assumption); (case b6 => omega); (case b7 => omega); (case kne => ((repeat (refine' List.forall_mem_cons.mpr ⟨⟨neN ?_, neN ?_, neN ?_, neN ?_⟩, ?_⟩; (iterate 4 (first | (dsimp only; omega) | omega)))); exact List.forall_mem_nil _)); (case kd => ktr_room); (case ku => ktr_units); k_whole); intro v9_z h9_z tk9_z t59_z t89_z c59_z c89_z o59_z o89_z F9_z N9_z TB9_z n59_z n89_z S59_z S89_z hP9_z; obtain ⟨E59_z, E89_z⟩ := since_step (by assumption) (by assumption) (by assumption) (by k_mem) (by k_mem) (by k_mem) (by k_mem) (by assumption) (by assumption) S59_z S89_z; clear S59_z S89_z; replace n59_z := allNe_of n59_z; replace n89_z := allNe_of n89_z; simp only [tail4, List.cons_append, List.nil_append] at N9_z; simp only [AllNe, and_true] at n59_z n89_z; obtain ⟨t91_z, e9_z⟩ := hP9_z; subst e9_z; (try k_sweep)) | ((with_reducible show wpAny _ _ (call (Value.ref 49) _) _ _ _); k_dflt (refine' use1 (c_div2 ?a1 ?a2 ?a3) ?k1 ?k2 ?k3 ?k4 ?kK ?k5 ?kd ?ku ?_; (case k1 => k_asm); (case k2 => k_asm); (case k3 => k_asm); (case k4 => k_asm); (case kK => rfl); (case k5 => k_asm); (case a1 => exact ⟨by omega, by omega⟩); (case a2 => exact ⟨by omega, by omega⟩); (case a3 => omega); (case kd => ktr_room); (case ku => ktr_units); k_whole); intro D9_z o9_z h9_z tk9_z F9_z N9_z nD9_z hP9_z; simp only [AllNe, and_true] at nD9_z; obtain ⟨t91_z, t92_z, c9_z, e9_z⟩ := hP9_z; subst e9_z; (try k_sweep)) | ((with_reducible show wpAny _ _ (call (Value.ref 63) _) _ _ _); k_dflt ((first | (refine' useT1 (rest := []) (d_i2d ?a1 ?a2 ?a3 ?a4) ?tb ?k1 ?k2 ?k3 ?k4 ?kK ?k5 ?kne ?kd ?ku ?_; (case k5 => k_asm)) | (refine' useT1 (rest := [_]) (d_i2d ?a1 ?a2 ?a3 ?a4) ?tb ?k1 ?k2 ?k3 ?k4 ?kK ?k5 ?kne ?kd ?ku ?_; (case k5 => k_asm)) | (refine' useT1 (rest := [_, _]) (d_i2d ?a1 ?a2 ?a3 ?a4) ?tb ?k1 ?k2 ?k3 ?k4 ?kK ?k5 ?kne ?kd ?ku ?_; (case k5 => k_asm)) | (refine' useT1 (rest := [_, _, _]) (d_i2d ?a1 ?a2 ?a3 ?a4) ?tb ?k1 ?k2 ?k3 ?k4 ?kK ?k5 ?kne ?kd ?ku ?_; (case k5 => k_asm)) | (refine' useT1 (rest := [_, _, _, _]) (d_i2d ?a1 ?a2 ?a3 ?a4) ?tb ?k1 ?k2 ?k3 ?k4 ?kK ?k5 ?kne ?kd ?ku ?_; (case k5 => k_asm)) | (refine' useT1 (rest := [_, _, _, _, _]) (d_i2d ?a1 ?a2 ?a3 ?a4) ?tb ?k1 ?k2 ?k3 ?k4 ?kK ?k5 ?kne ?kd ?ku ?_; (case k5 => k_asm)) | (refine' useT1 (rest := [_, _, _, _, _, _]) (d_i2d ?a1 ?a2 ?a3 ?a4) ?tb ?k1 ?k2 ?k3 ?k4 ?kK ?k5 ?kne ?kd ?ku ?_; (case k5 => k_asm))); (case k1 => k_asm); (case k2 => k_asm); (case k3 => k_asm); (case k4 => k_asm); (case tb => assumption); (case kK => rfl); (case a1 => omega); (case a2 => omega); (case a3 => omega); (case a4 => omega); (case kne => ((repeat (refine' List.forall_mem_cons.mpr ⟨⟨neN ?_, neN ?_, neN ?_, neN ?_⟩, ?_⟩; (iterate 4 (first | (dsimp only; omega) | omega)))); exact List.forall_mem_nil _)); (case kd => ktr_room); (case ku => ktr_units); k_whole); intro D9_z o9_z h9_z tk9_z t59_z t89_z c59_z c89_z o59_z o89_z F9_z N9_z TB9_z n59_z n89_z nD9_z S59_z S89_z hP9_z; obtain ⟨E59_z, E89_z⟩ := since_step (by assumption) (by assumption) (by assumption) (by k_mem) (by k_mem) (by k_mem) (by k_mem) (by assumption) (by assumption) S59_z S89_z; clear S59_z S89_z; simp only [tail4, List.cons_append, List.nil_append] at N9_z nD9_z; simp only [AllNe, and_true] at n59_z n89_z nD9_z; obtain ⟨vs9_z, cc9_z, e9_z, hI9_z⟩ := hP9_z; subst e9_z; (have hIl9_z := hI9_z.length); (try k_sweep)) | walk1)) | (leave1; walk_say "STEP leave1"; (try dsimp only)) | fail "no step"))
    (rename News _ _ _ _ => NT)
    (rename Fr _ _ _ _ => FT)
    refine' UnrEnd.intro FT NT [_, _, _, _, _, _] ?sub ?off ⟨_, _, _, rfl, ?hm, by rfl⟩
    case sub => (repeat' (first | exact List.forall_mem_nil _ | refine List.forall_mem_cons.mpr ⟨by k_mem, ?_⟩))
    case off => k_all
    case hm =>
      intro y e1 e2 e3
      simp only [e1, e2, e3, if_false]
  case fin =>
    intro r tr vsq cq qs u h9 tk9 hr0 hr1 hq hqs hav hql F9 N9
    clear NL FL
    unfold dmM at F9
    have hqr : IntsAre (vsq.toList.reverse.toArray).toList qs.reverse := hq.reverse
    have hvl : vsq.toList.length ≤ 40 := by rw [hq.length]; exact hql
    have hq1 : qs.reverse.length ≤ 40 := by rw [List.length_reverse]; exact hql
    have hq2 : ∀ d ∈ qs.reverse, 0 ≤ d := fun d h => hqs d (by simpa using h)
    have hq3 := dm_last h2 hr0 hr1 hav
    have hq4 : valD ((Builtin.Int.intBits b : Nat) : Int).toNat qs.reverse < 1099511627776 := by
      have := (fdiv_bound h0 h2).2
      rw [← hq3.1] at this
      omega
    (repeat' (first | (k_unfold; (try dsimp only)) | (k_end; kc_close) | (first | ((with_reducible show wpAny _ _ (eval (PySem.Expr.Name _ _) _) _ _ _); k_dflt (refine' nameX_L ?F ?v ?_ ?a ?b (by decide); (case F => k_asm); (case v => exact Eq.refl (some _)); (case a => exact Eq.refl ScopeKind.function); (case b => exact Eq.refl (some NameKind.local)); k_whole)) | ((with_reducible show wpAny _ _ (eval (PySem.Expr.BinOp (PySem.Expr.Name _ _) _ (PySem.Expr.Name _ _) _) _) _ _ _); k_dflt (refine' bin_nn ?F ?v ?v2 ?_ ?a ?b ?b2 (by decide) (by decide); (case F => k_asm); (case v => exact Eq.refl (some _)); (case a => exact Eq.refl ScopeKind.function); (case b => exact Eq.refl (some NameKind.local)); (case v2 => exact Eq.refl (some _)); (case b2 => exact Eq.refl (some NameKind.local)); k_whole)) | ((with_reducible show wpAny _ _ (eval (PySem.Expr.BinOp (PySem.Expr.Name _ _) _ _ _) _) _ _ _); k_dflt (refine' bin_n ?F ?v ?_ ?a ?b (by decide); (case F => k_asm); (case v => exact Eq.refl (some _)); (case a => exact Eq.refl ScopeKind.function); (case b => exact Eq.refl (some NameKind.local)); k_whole)) | ((with_reducible show wpAny _ _ (execs (Stmt.Assign [PySem.Expr.Name _ _] _ _ :: _) _) _ _ _); k_dflt (refine' asg ?_; k_whole)) | ((with_reducible show wpAny _ _ (storeName _ _ _) _ _ _); k_dflt (refine' st_tk ?F ?N ?_ ?a ?b; (case F => k_asm); (case N => k_asm); (case a => exact Eq.refl ScopeKind.function); (case b => exact Eq.refl (some NameKind.local)); k_whole); intro h_z tk_z F_z N_z; (try k_sweep)) | ((with_reducible show wpAny _ _ (spliced (backTo _ (starEach (PySem.Expr.Name _ _ :: _) _))) _ _ _); k_dflt (refine' sp_n ?F ?v ?_ ?a ?b (by decide); (case F => k_asm); (case v => exact Eq.refl (some _)); (case a => exact Eq.refl ScopeKind.function); (case b => exact Eq.refl (some NameKind.local)); k_whole)) | ((with_reducible show wpAny _ _ (spliced (backTo _ (starEach (PySem.Expr.Constant (PySem.Const.int _) _ _ :: _) _))) _ _ _); k_dflt (refine' sp_c ?_; k_whole)) | ((with_reducible show wpAny _ _ (call (Value.builtin "list.reverse") _) _ _ _); k_dflt (refine' kl_reverse ?F ?N rfl ?U ?z ?_; (case F => k_asm); (case N => k_asm); (case U => k_upd); (case z => (rw [sizeLine_eq]; omega))); intro hq_z Fq_z Nq_z; (try k_sweep)) | ((with_reducible show wpAny _ _ (call (Value.ref 70) _) _ _ _); k_dflt ((first | (refine' useT_base (rest := []) (d_d2i ?b1 ?b2 ?b3 ?b4 ?b5 ?b6 ?b7) ?tb ?k1 ?k2 ?k3 ?k4 ?kK ?k5 ?kne ?kd ?ku ?_; (case k5 => k_asm)) | (refine' useT_base (rest := [_]) (d_d2i ?b1 ?b2 ?b3 ?b4 ?b5 ?b6 ?b7) ?tb ?k1 ?k2 ?k3 ?k4 ?kK ?k5 ?kne ?kd ?ku ?_; (case k5 => k_asm)) | (refine' useT_base (rest := [_, _]) (d_d2i ?b1 ?b2 ?b3 ?b4 ?b5 ?b6 ?b7) ?tb ?k1 ?k2 ?k3 ?k4 ?kK ?k5 ?kne ?kd ?ku ?_; (case k5 => k_asm)) | (refine' useT_base (rest := [_, _, _]) (d_d2i ?b1 ?b2 ?b3 ?b4 ?b5 ?b6 ?b7) ?tb ?k1 ?k2 ?k3 ?k4 ?kK ?k5 ?kne ?kd ?ku ?_; (case k5 => k_asm)) | (refine' useT_base (rest := [_, _, _, _]) (d_d2i ?b1 ?b2 ?b3 ?b4 ?b5 ?b6 ?b7) ?tb ?k1 ?k2 ?k3 ?k4 ?kK ?k5 ?kne ?kd ?ku ?_; (case k5 => k_asm)) | (refine' useT_base (rest := [_, _, _, _, _]) (d_d2i ?b1 ?b2 ?b3 ?b4 ?b5 ?b6 ?b7) ?tb ?k1 ?k2 ?k3 ?k4 ?kK ?k5 ?kne ?kd ?ku ?_; (case k5 => k_asm)) | (refine' useT_base (rest := [_, _, _, _, _, _]) (d_d2i ?b1 ?b2 ?b3 ?b4 ?b5 ?b6 ?b7) ?tb ?k1 ?k2 ?k3 ?k4 ?kK ?k5 ?kne ?kd ?ku ?_; (case k5 => k_asm))); (case k1 => k_asm); (case k2 => k_asm); (case k3 => k_asm); (case k4 => k_asm); (case tb => assumption); (case kK => rfl); (case b1 => exact News.get (by k_asm) (by k_mem)); (case b2 => assumption); (case b3 => assumption); (case b4 => assumption); (case b5 => assumption); (case b6 => omega); (case b7 => omega); (case kne => ((repeat (refine' List.forall_mem_cons.mpr ⟨⟨neN ?_, neN ?_, neN ?_, neN ?_⟩, ?_⟩; (iterate 4 (first | (dsimp only; omega) | omega)))); exact List.forall_mem_nil _)); (case kd => ktr_room); (case ku => ktr_units); k_whole); intro v9_z h9_z tk9_z t59_z t89_z c59_z c89_z o59_z o89_z F9_z N9_z TB9_z n59_z n89_z S59_z S89_z hP9_z; obtain ⟨E59_z, E89_z⟩ := since_step (by assumption) (by assumption) (by assumption) (by k_mem) (by k_mem) (by k_mem) (by k_mem) (by assumption) (by assumption) S59_z S89_z; clear S59_z S89_z; replace n59_z := allNe_of n59_z; replace n89_z := allNe_of n89_z; simp only [tail4, List.cons_append, List.nil_append] at N9_z; simp only [AllNe, and_true] at n59_z n89_z; obtain ⟨t91_z, e9_z⟩ := hP9_z; subst e9_z; (try k_sweep)) | ((with_reducible show wpAny _ _ (call (Value.ref 49) _) _ _ _); k_dflt (refine' use1 (c_div2 ?a1 ?a2 ?a3) ?k1 ?k2 ?k3 ?k4 ?kK ?k5 ?kd ?ku ?_; (case k1 => k_asm); (case k2 => k_asm); (case k3 => k_asm); (case k4 => k_asm); (case kK => rfl); (case k5 => k_asm); (case a1 => exact ⟨by omega, by omega⟩); (case a2 => exact ⟨by omega, by omega⟩); (case a3 => omega); (case kd => ktr_room); (case ku => ktr_units); k_whole); intro D9_z o9_z h9_z tk9_z F9_z N9_z nD9_z hP9_z; simp only [AllNe, and_true] at nD9_z; obtain ⟨t91_z, t92_z, c9_z, e9_z⟩ := hP9_z; subst e9_z; (try k_sweep)) | ((with_reducible show wpAny _ _ (call (Value.ref 63) _) _ _ _); k_dflt ((first | (refine' useT1 (rest := []) (d_i2d ?a1 ?a2 ?a3 ?a4) ?tb ?k1 ?k2 ?k3 ?k4 ?kK ?k5 ?kne ?kd ?ku ?_; (case k5 => k_asm)) | (refine' useT1 (rest := [_]) (d_i2d ?a1 ?a2 ?a3 ?a4) ?tb ?k1 ?k2 ?k3 ?k4 ?kK ?k5 ?kne ?kd ?ku ?_; (case k5 => k_asm)) | (refine' useT1 (rest := [_, _]) (d_i2d ?a1 ?a2 ?a3 ?a4) ?tb ?k1 ?k2 ?k3 ?k4 ?kK ?k5 ?kne ?kd ?ku ?_; (case k5 => k_asm)) | (refine' useT1 (rest := [_, _, _]) (d_i2d ?a1 ?a2 ?a3 ?a4) ?tb ?k1 ?k2 ?k3 ?k4 ?kK ?k5 ?kne ?kd ?ku ?_; (case k5 => k_asm)) | (refine' useT1 (rest := [_, _, _, _]) (d_i2d ?a1 ?a2 ?a3 ?a4) ?tb ?k1 ?k2 ?k3 ?k4 ?kK ?k5 ?kne ?kd ?ku ?_; (case k5 => k_asm)) | (refine' useT1 (rest := [_, _, _, _, _]) (d_i2d ?a1 ?a2 ?a3 ?a4) ?tb ?k1 ?k2 ?k3 ?k4 ?kK ?k5 ?kne ?kd ?ku ?_; (case k5 => k_asm)) | (refine' useT1 (rest := [_, _, _, _, _, _]) (d_i2d ?a1 ?a2 ?a3 ?a4) ?tb ?k1 ?k2 ?k3 ?k4 ?kK ?k5 ?kne ?kd ?ku ?_; (case k5 => k_asm))); (case k1 => k_asm); (case k2 => k_asm); (case k3 => k_asm); (case k4 => k_asm); (case tb => assumption); (case kK => rfl); (case a1 => omega); (case a2 => omega); (case a3 => omega); (case a4 => omega); (case kne => ((repeat (refine' List.forall_mem_cons.mpr ⟨⟨neN ?_, neN ?_, neN ?_, neN ?_⟩, ?_⟩; (iterate 4 (first | (dsimp only; omega) | omega)))); exact List.forall_mem_nil _)); (case kd => ktr_room); (case ku => ktr_units); k_whole); intro D9_z o9_z h9_z tk9_z t59_z t89_z c59_z c89_z o59_z o89_z F9_z N9_z TB9_z n59_z n89_z nD9_z S59_z S89_z hP9_z; obtain ⟨E59_z, E89_z⟩ := since_step (by assumption) (by assumption) (by assumption) (by k_mem) (by k_mem) (by k_mem) (by k_mem) (by assumption) (by assumption) S59_z S89_z; clear S59_z S89_z; simp only [tail4, List.cons_append, List.nil_append] at N9_z nD9_z; simp only [AllNe, and_true] at n59_z n89_z nD9_z; obtain ⟨vs9_z, cc9_z, e9_z, hI9_z⟩ := hP9_z; subst e9_z; (have hIl9_z := hI9_z.length); (try k_sweep)) | walk1) | (dsimp only; (first | ((with_reducible show wpAny _ _ (eval (PySem.Expr.Name _ _) _) _ _ _); k_dflt (refine' nameX_L ?F ?v ?_ ?a ?b (by decide); (case F => k_asm); (case v => exact Eq.refl (some _)); (case a => exact Eq.refl ScopeKind.function); (case b => exact Eq.refl (some NameKind.local)); k_whole)) | ((with_reducible show wpAny _ _ (eval (PySem.Expr.BinOp (PySem.Expr.Name _ _) _ (PySem.Expr.Name _ _) _) _) _ _ _); k_dflt (refine' bin_nn ?F ?v ?v2 ?_ ?a ?b ?b2 (by decide) (by decide); (case F => k_asm); (case v => exact Eq.refl (some _)); (case a => exact Eq.refl ScopeKind.function); (case b => exact Eq.refl (some NameKind.local)); (case v2 => exact Eq.refl (some _)); (case b2 => exact Eq.refl (some NameKind.local)); k_whole)) | ((with_reducible show wpAny _ _ (eval (PySem.Expr.BinOp (PySem.Expr.Name _ _) _ _ _) _) _ _ _); k_dflt (refine' bin_n ?F ?v ?_ ?a ?b (by decide); (case F => k_asm); (case v => exact Eq.refl (some _)); (case a => exact Eq.refl ScopeKind.function); (case b => exact Eq.refl (some NameKind.local)); k_whole)) | ((with_reducible show wpAny _ _ (execs (Stmt.Assign [PySem.Expr.Name _ _] _ _ :: _) _) _ _ _); k_dflt (refine' asg ?_; k_whole)) | ((with_reducible show wpAny _ _ (storeName _ _ _) _ _ _); k_dflt (refine' st_tk ?F ?N ?_ ?a ?b; (case F => k_asm); (case N => k_asm); (case a => exact Eq.refl ScopeKind.function); (case b => exact Eq.refl (some NameKind.local)); k_whole); intro h_z tk_z F_z N_z; (try k_sweep)) | ((with_reducible show wpAny _ _ (spliced (backTo _ (starEach (PySem.Expr.Name _ _ :: _) _))) _ _ _); k_dflt (refine' sp_n ?F ?v ?_ ?a ?b (by decide); (case F => k_asm); (case v => exact Eq.refl (some _)); (case a => exact Eq.refl ScopeKind.function); (case b => exact Eq.refl (some NameKind.local)); k_whole)) | ((with_reducible show wpAny _ _ (spliced (backTo _ (starEach (PySem.Expr.Constant (PySem.Const.int _) _ _ :: _) _))) _ _ _); k_dflt (refine' sp_c ?_; k_whole)) | ((with_reducible show wpAny _ _ (call (Value.builtin "list.reverse") _) _ _ _); k_dflt (refine' kl_reverse ?F ?N rfl ?U ?z ?_; (case F => k_asm); (case N => k_asm); (case U => k_upd); (case z => (rw [sizeLine_eq]; omega))); intro hq_z Fq_z Nq_z; (try k_sweep)) | ((with_reducible show wpAny _ _ (call (Value.ref 70) _) _ _ _); k_dflt ((first | (refine' useT_base (rest := []) (d_d2i ?b1 ?b2 ?b3 ?b4 ?b5 ?b6 ?b7) ?tb ?k1 ?k2 ?k3 ?k4 ?kK ?k5 ?kne ?kd ?ku ?_; (case k5 => k_asm)) | (refine' useT_base (rest := [_]) (d_d2i ?b1 ?b2 ?b3 ?b4 ?b5 ?b6 ?b7) ?tb ?k1 ?k2 ?k3 ?k4 ?kK ?k5 ?kne ?kd ?ku ?_; (case k5 => k_asm)) | (refine' useT_base (rest := [_, _]) (d_d2i ?b1 ?b2 ?b3 ?b4 ?b5 ?b6 ?b7) ?tb ?k1 ?k2 ?k3 ?k4 ?kK ?k5 ?kne ?kd ?ku ?_; (case k5 => k_asm)) | (refine' useT_base (rest := [_, _, _]) (d_d2i ?b1 ?b2 ?b3 ?b4 ?b5 ?b6 ?b7) ?tb ?k1 ?k2 ?k3 ?k4 ?kK ?k5 ?kne ?kd ?ku ?_; (case k5 => k_asm)) | (refine' useT_base (rest := [_, _, _, _]) (d_d2i ?b1 ?b2 ?b3 ?b4 ?b5 ?b6 ?b7) ?tb ?k1 ?k2 ?k3 ?k4 ?kK ?k5 ?kne ?kd ?ku ?_; (case k5 => k_asm)) | (refine' useT_base (rest := [_, _, _, _, _]) (d_d2i ?b1 ?b2 ?b3 ?b4 ?b5 ?b6 ?b7) ?tb ?k1 ?k2 ?k3 ?k4 ?kK ?k5 ?kne ?kd ?ku ?_; (case k5 => k_asm)) | (refine' useT_base (rest := [_, _, _, _, _, _]) (d_d2i ?b1 ?b2 ?b3 ?b4 ?b5 ?b6 ?b7) ?tb ?k1 ?k2 ?k3 ?k4 ?kK ?k5 ?kne ?kd ?ku ?_; (case k5 => k_asm))); (case k1 => k_asm); (case k2 => k_asm); (case k3 => k_asm); (case k4 => k_asm); (case tb => assumption); (case kK => rfl); (case b1 => exact News.get (by k_asm) (by k_mem)); (case b2 => assumption); (case b3 => assumption); (case b4 => assumption); (case b5 => assumption); (case b6 => omega); (case b7 => omega); (case kne => ((repeat (refine' List.forall_mem_cons.mpr ⟨⟨neN ?_, neN ?_, neN ?_, neN ?_⟩, ?_⟩; (iterate 4 (first | (dsimp only; omega) | omega)))); exact List.forall_mem_nil _)); (case kd => ktr_room); (case ku => ktr_units); k_whole); intro v9_z h9_z tk9_z t59_z t89_z c59_z c89_z o59_z o89_z F9_z N9_z TB9_z n59_z n89_z S59_z S89_z hP9_z; obtain ⟨E59_z, E89_z⟩ := since_step (by assumption) (by assumption) (by assumption) (by k_mem) (by k_mem) (by k_mem) (by k_mem) (by assumption) (by assumption) S59_z S89_z; clear S59_z S89_z; replace n59_z := allNe_of n59_z; replace n89_z := allNe_of n89_z; simp only [tail4, List.cons_append, List.nil_append] at N9_z; simp only [AllNe, and_true] at n59_z n89_z; obtain ⟨t91_z, e9_z⟩ := hP9_z; subst e9_z; (try k_sweep)) | ((with_reducible show wpAny _ _ (call (Value.ref 49) _) _ _ _); k_dflt (refine' use1 (c_div2 ?a1 ?a2 ?a3) ?k1 ?k2 ?k3 ?k4 ?kK ?k5 ?kd ?ku ?_; (case k1 => k_asm); (case k2 => k_asm); (case k3 => k_asm); (case k4 => k_asm); (case kK => rfl); (case k5 => k_asm); (case a1 => exact ⟨by omega, by omega⟩); (case a2 => exact ⟨by omega, by omega⟩); (case a3 => omega); (case kd => ktr_room); (case ku => ktr_units); k_whole); intro D9_z o9_z h9_z tk9_z F9_z N9_z nD9_z hP9_z; simp only [AllNe, and_true] at nD9_z; obtain ⟨t91_z, t92_z, c9_z, e9_z⟩ := hP9_z; subst e9_z; (try k_sweep)) | ((with_reducible show wpAny _ _ (call (Value.ref 63) _) _ _ _); k_dflt ((first | (refine' useT1 (rest := []) (d_i2d ?a1 ?a2 ?a3 ?a4) ?tb ?k1 ?k2 ?k3 ?k4 ?kK ?k5 ?kne ?kd ?ku ?_; (case k5 => k_asm)) | (refine' useT1 (rest := [_]) (d_i2d ?a1 ?a2 ?a3 ?a4) ?tb ?k1 ?k2 ?k3 ?k4 ?kK ?k5 ?kne ?kd ?ku ?_; (case k5 => k_asm)) | (refine' useT1 (rest := [_, _]) (d_i2d ?a1 ?a2 ?a3 ?a4) ?tb ?k1 ?k2 ?k3 ?k4 ?kK ?k5 ?kne ?kd ?ku ?_; (case k5 => k_asm)) | (refine' useT1 (rest := [_, _, _]) (d_i2d ?a1 ?a2 ?a3 ?a4) ?tb ?k1 ?k2 ?k3 ?k4 ?kK ?k5 ?kne ?kd ?ku ?_; (case k5 => k_asm)) | (refine' useT1 (rest := [_, _, _, _]) (d_i2d ?a1 ?a2 ?a3 ?a4) ?tb ?k1 ?k2 ?k3 ?k4 ?kK ?k5 ?kne ?kd ?ku ?_; (case k5 => k_asm)) | (refine' useT1 (rest := [_, _, _, _, _]) (d_i2d ?a1 ?a2 ?a3 ?a4) ?tb ?k1 ?k2 ?k3 ?k4 ?kK ?k5 ?kne ?kd ?ku ?_; (case k5 => k_asm)) | (refine' useT1 (rest := [_, _, _, _, _, _]) (d_i2d ?a1 ?a2 ?a3 ?a4) ?tb ?k1 ?k2 ?k3 ?k4 ?kK ?k5 ?kne ?kd ?ku ?_; (case k5 => k_asm))); (case k1 => k_asm); (case k2 => k_asm); (case k3 => k_asm); (case k4 => k_asm); (case tb => assumption); (case kK => rfl); (case a1 => omega); (case a2 => omega); (case a3 => omega); (case a4 => omega); (case kne => ((repeat (refine' List.forall_mem_cons.mpr ⟨⟨neN ?_, neN ?_, neN ?_, neN ?_⟩, ?_⟩; (iterate 4 (first | (dsimp only; omega) | omega)))); exact List.forall_mem_nil _)); (case kd => ktr_room); (case ku => ktr_units); k_whole); intro D9_z o9_z h9_z tk9_z t59_z t89_z c59_z c89_z o59_z o89_z F9_z N9_z TB9_z n59_z n89_z nD9_z S59_z S89_z hP9_z; obtain ⟨E59_z, E89_z⟩ := since_step (by assumption) (by assumption) (by assumption) (by k_mem) (by k_mem) (by k_mem) (by k_mem) (by assumption) (by assumption) S59_z S89_z; clear S59_z S89_z; simp only [tail4, List.cons_append, List.nil_append] at N9_z nD9_z; simp only [AllNe, and_true] at n59_z n89_z nD9_z; obtain ⟨vs9_z, cc9_z, e9_z, hI9_z⟩ := hP9_z; subst e9_z; (have hIl9_z := hI9_z.length); (try k_sweep)) | walk1)) | (leave1; walk_say "STEP leave1"; (try dsimp only)) | fail "no step"))

    (rename News _ _ _ _ => N9)
    (rename Fr _ _ _ _ => F9)
    (rename Tabs _ _ _ _ _ _ => TB9)
    refine' hret _ _ _ (fun b o hb e => F9.keep b o (by rw [hg']; exact hideAll_get _ e hb)) ⟨tabs_since TB9 N9 (by k_mem) (by k_mem) (by k_mem) (by k_mem) (by assumption) (by assumption), ?w⟩
    rw [← hq3.1, ← hq3.2]
    exact ret_tup2 N9 hgg (by k_mem) (off_since TB9 (by assumption) (by assumption) (by omega) (by omega) (by omega) (by omega))
end Mine
end

theorem Mine.fresh19 : True := by
  w_top off
  trivial
section
open PySem PySem.W PySem.Calls PySem.Spec PyProof.Rows
set_option maxRecDepth 100000
set_option maxHeartbeats 8000000
namespace Mine
theorem d_idm {w : World} {a b : Int} {t1 t2 : Tok} {s : Shared} (h0 : 0 ≤ a) (h1 : a < 1048576) (h2 : 1 ≤ b) (h3 : b < 1024) :
    DoesT w 51 84 [.int a t1, .int b t2] s (fun v h => ∃ D, v = .ref D ∧ s.heap.get? D = none ∧ ∃ o, h.get? D = some o ∧ (∃ its c, o.data = .seq its c) ∧ ∃ t1 t2 c, o = tupO #[.int (a.fdiv b) t1, .int (a.fmod b) t2] c) := by
  intro t5 t8 c5 c8 o5 o8 TB
  intro p loose mean mg mb dp un gd cn cs fa ccd cl outer A₀ base h₀ L m Q E B F N X T hk hd hu hret
  refine wpAny_call ?_
  k_dflt ((refine' enterK ?k1 ?k2 ?k3 ?k4 ?k5 ?kA ?kF ?kK ?k6 ?k7 ?k8 ?k9 ?kB ?_ ?c2 ?c3 ?c4 ?c5; (case kA => exact rfl); (case kF => exact rfl); (case kK => assumption); (case k1 => k_asm); (case k2 => k_asm); (case k3 => k_asm); (case k4 => k_asm); (case k5 => k_asm); (case k6 => k_is); (case k7 => k_is); (case k8 => ktr_room); (case k9 => exact BindsTo.of_eq rfl); (case c5 => decide); (case kB => exact locs rfl); (case c2 => exact rfl); (case c3 => exact rfl); (case c4 => exact rfl); k_whole))
  intro g' L' h' hg' F' N' B' X' T' l0'
  have hgg : g' = hideAll s.heap [65, 58, c5, c8] := hg'
  have E5 : Since 65 s.heap c5 c5 := .inl rfl
  have E8 : Since 58 s.heap c8 c8 := .inl rfl
  have l0 := l0'
  k_lt l0
  simp only [tail4] at N'
  (try dsimp only)
  (try k_fold)
  (repeat' (first | (k_unfold; (try dsimp only)) | (k_end; kc_close) | (first | ((with_reducible show wpAny _ _ (eval (PySem.Expr.Name _ _) _) _ _ _); k_dflt (refine' nameX_L ?F ?v ?_ ?a ?b (by decide); (case F => k_asm); (case v => exact Eq.refl (some _)); (case a => exact Eq.refl ScopeKind.function); (case b => exact Eq.refl (some NameKind.local)); k_whole)) | ((with_reducible show wpAny _ _ (eval (PySem.Expr.BinOp (PySem.Expr.Name _ _) _ (PySem.Expr.Name _ _) _) _) _ _ _); k_dflt (refine' bin_nn ?F ?v ?v2 ?_ ?a ?b ?b2 (by decide) (by decide); (case F => k_asm); (case v => exact Eq.refl (some _)); (case a => exact Eq.refl ScopeKind.function); (case b => exact Eq.refl (some NameKind.local)); (case v2 => exact Eq.refl (some _)); (case b2 => exact Eq.refl (some NameKind.local)); k_whole)) | ((with_reducible show wpAny _ _ (eval (PySem.Expr.BinOp (PySem.Expr.Name _ _) _ _ _) _) _ _ _); k_dflt (refine' bin_n ?F ?v ?_ ?a ?b (by decide); (case F => k_asm); (case v => exact Eq.refl (some _)); (case a => exact Eq.refl ScopeKind.function); (case b => exact Eq.refl (some NameKind.local)); k_whole)) | ((with_reducible show wpAny _ _ (execs (Stmt.Assign [PySem.Expr.Name _ _] _ _ :: _) _) _ _ _); k_dflt (refine' asg ?_; k_whole)) | ((with_reducible show wpAny _ _ (storeName _ _ _) _ _ _); k_dflt (refine' st_tk ?F ?N ?_ ?a ?b; (case F => k_asm); (case N => k_asm); (case a => exact Eq.refl ScopeKind.function); (case b => exact Eq.refl (some NameKind.local)); k_whole); intro h_z tk_z F_z N_z; (try k_sweep)) | ((with_reducible show wpAny _ _ (spliced (backTo _ (starEach (PySem.Expr.Name _ _ :: _) _))) _ _ _); k_dflt (refine' sp_n ?F ?v ?_ ?a ?b (by decide); (case F => k_asm); (case v => exact Eq.refl (some _)); (case a => exact Eq.refl ScopeKind.function); (case b => exact Eq.refl (some NameKind.local)); k_whole)) | ((with_reducible show wpAny _ _ (spliced (backTo _ (starEach (PySem.Expr.Constant (PySem.Const.int _) _ _ :: _) _))) _ _ _); k_dflt (refine' sp_c ?_; k_whole)) | ((with_reducible show wpAny _ _ (call (Value.ref 77) _) _ _ _); k_dflt ((first | (refine' useT1 (rest := []) (d_dmp ?a1 ?a2 ?a3 ?a4) ?tb ?k1 ?k2 ?k3 ?k4 ?kK ?k5 ?kne ?kd ?ku ?_; (case k5 => k_asm)) | (refine' useT1 (rest := [_]) (d_dmp ?a1 ?a2 ?a3 ?a4) ?tb ?k1 ?k2 ?k3 ?k4 ?kK ?k5 ?kne ?kd ?ku ?_; (case k5 => k_asm)) | (refine' useT1 (rest := [_, _]) (d_dmp ?a1 ?a2 ?a3 ?a4) ?tb ?k1 ?k2 ?k3 ?k4 ?kK ?k5 ?kne ?kd ?ku ?_; (case k5 => k_asm)) | (refine' useT1 (rest := [_, _, _]) (d_dmp ?a1 ?a2 ?a3 ?a4) ?tb ?k1 ?k2 ?k3 ?k4 ?kK ?k5 ?kne ?kd ?ku ?_; (case k5 => k_asm)) | (refine' useT1 (rest := [_, _, _, _]) (d_dmp ?a1 ?a2 ?a3 ?a4) ?tb ?k1 ?k2 ?k3 ?k4 ?kK ?k5 ?kne ?kd ?ku ?_; (case k5 => k_asm)) | (refine' useT1 (rest := [_, _, _, _, _]) (d_dmp ?a1 ?a2 ?a3 ?a4) ?tb ?k1 ?k2 ?k3 ?k4 ?kK ?k5 ?kne ?kd ?ku ?_; (case k5 => k_asm)) | (refine' useT1 (rest := [_, _, _, _, _, _]) (d_dmp ?a1 ?a2 ?a3 ?a4) ?tb ?k1 ?k2 ?k3 ?k4 ?kK ?k5 ?kne ?kd ?ku ?_; (case k5 => k_asm))); (case k1 => k_asm); (case k2 => k_asm); (case k3 => k_asm); (case k4 => k_asm); (case tb => assumption); (case kK => rfl); (case a1 => omega); (case a2 => omega); (case a3 => omega); (case a4 => omega); (case kne => ((repeat (refine' List.forall_mem_cons.mpr ⟨⟨neN ?_, neN ?_, neN ?_, neN ?_⟩, ?_⟩; (iterate 4 (first | (dsimp only; omega) | omega)))); exact List.forall_mem_nil _)); (case kd => ktr_room); (case ku => ktr_units); k_whole); intro D9_z o9_z h9_z tk9_z t59_z t89_z c59_z c89_z o59_z o89_z F9_z N9_z TB9_z n59_z n89_z nD9_z S59_z S89_z hP9_z; obtain ⟨E59_z, E89_z⟩ := since_step (by assumption) (by assumption) (by assumption) (by k_mem) (by k_mem) (by k_mem) (by k_mem) (by assumption) (by assumption) S59_z S89_z; clear S59_z S89_z; simp only [tail4, List.cons_append, List.nil_append] at N9_z nD9_z; simp only [AllNe, and_true] at n59_z n89_z nD9_z; obtain ⟨t91_z, t92_z, c9_z, e9_z⟩ := hP9_z; subst e9_z; (try k_sweep)) | walk1) | (dsimp only; (first | ((with_reducible show wpAny _ _ (eval (PySem.Expr.Name _ _) _) _ _ _); k_dflt (refine' nameX_L ?F ?v ?_ ?a ?b (by decide); (case F => k_asm); (case v => exact Eq.refl (some _)); (case a => exact Eq.refl ScopeKind.function); (case b => exact Eq.refl (some NameKind.local)); k_whole)) | ((with_reducible show wpAny _ _ (eval (PySem.Expr.BinOp (PySem.Expr.Name _ _) _ (PySem.Expr.Name _ _) _) _) _ _ _); k_dflt (refine' bin_nn ?F ?v ?v2 ?_ ?a ?b ?b2 (by decide) (by decide); (case F => k_asm); (case v => exact Eq.refl (some _)); (case a => exact Eq.refl ScopeKind.function); (case b => exact Eq.refl (some NameKind.local)); (case v2 => exact Eq.refl (some _)); (case b2 => exact Eq.refl (some NameKind.local)); k_whole)) | ((with_reducible show wpAny _ _ (eval (PySem.Expr.BinOp (PySem.Expr.Name _ _) _ _ _) _) _ _ _); k_dflt (refine' bin_n ?F ?v ?_ ?a ?b (by decide); (case F => k_asm); (case v => exact Eq.refl (some _)); (case a => exact Eq.refl ScopeKind.function); (case b => exact Eq.refl (some NameKind.local)); k_whole)) | ((with_reducible show wpAny _ _ (execs (Stmt.Assign [PySem.Expr.Name _ _] _ _ :: _) _) _ _ _); k_dflt (refine' asg ?_; k_whole)) | ((with_reducible show wpAny _ _ (storeName _ _ _) _ _ _); k_dflt (refine' st_tk ?F ?N ?_ ?a ?b; (case F => k_asm); (case N => k_asm); (case a => exact Eq.refl ScopeKind.function); (case b => exact Eq.refl (some NameKind.local)); k_whole); intro h_z tk_z F_z N_z; (try k_sweep)) | ((with_reducible show wpAny _ _ (spliced (backTo _ (starEach (PySem.Expr.Name _ _ :: _) _))) _ _ _); k_dflt (refine' sp_n ?F ?v ?_ ?a ?b (by decide); (case F => k_asm); (case v => exact Eq.refl (some _)); (case a => exact Eq.refl ScopeKind.function); (case b => exact Eq.refl (some NameKind.local)); k_whole)) | ((with_reducible show wpAny _ _ (spliced (backTo _ (starEach (PySem.Expr.Constant (PySem.Const.int _) _ _ :: _) _))) _ _ _); k_dflt (refine' sp_c ?_; k_whole)) | ((with_reducible show wpAny _ _ (call (Value.ref 77) _) _ _ _); k_dflt ((first | (refine' useT1 (rest := []) (d_dmp ?a1 ?a2 ?a3 ?a4) ?tb ?k1 ?k2 ?k3 ?k4 ?kK ?k5 ?kne ?kd ?ku ?_; (case k5 => k_asm)) | (refine' useT1 (rest := [_]) (d_dmp ?a1 ?a2 ?a3 ?a4) ?tb ?k1 ?k2 ?k3 ?k4 ?kK ?k5 ?kne ?kd ?ku ?_; (case k5 => k_asm)) | (refine' useT1 (rest := [_, _]) (d_dmp ?a1 ?a2 ?a3 ?a4) ?tb ?k1 ?k2 ?k3 ?k4 ?kK ?k5 ?kne ?kd ?ku ?_; (case k5 => k_asm)) | (refine' useT1 (rest := [_, _, _]) (d_dmp ?a1 ?a2 ?a3 ?a4) ?tb ?k1 ?k2 ?k3 ?k4 ?kK ?k5 ?kne ?kd ?ku ?_; (case k5 => k_asm)) | (refine' useT1 (rest := [_, _, _, _]) (d_dmp ?a1 ?a2 ?a3 ?a4) ?tb ?k1 ?k2 ?k3 ?k4 ?kK ?k5 ?kne ?kd ?ku ?_; (case k5 => k_asm)) | (refine' useT1 (rest := [_, _, _, _, _]) (d_dmp ?a1 ?a2 ?a3 ?a4) ?tb ?k1 ?k2 ?k3 ?k4 ?kK ?k5 ?kne ?kd ?ku ?_; (case k5 => k_asm)) | (refine' useT1 (rest := [_, _, _, _, _, _]) (d_dmp ?a1 ?a2 ?a3 ?a4) ?tb ?k1 ?k2 ?k3 ?k4 ?kK ?k5 ?kne ?kd ?ku ?_; (case k5 => k_asm))); (case k1 => k_asm); (case k2 => k_asm); (case k3 => k_asm); (case k4 => k_asm); (case tb => assumption); (case kK => rfl); (case a1 => omega); (case a2 => omega); (case a3 => omega); (case a4 => omega); (case kne => ((repeat (refine' List.forall_mem_cons.mpr ⟨⟨neN ?_, neN ?_, neN ?_, neN ?_⟩, ?_⟩; (iterate 4 (first | (dsimp only; omega) | omega)))); exact List.forall_mem_nil _)); (case kd => ktr_room); (case ku => ktr_units); k_whole); intro D9_z o9_z h9_z tk9_z t59_z t89_z c59_z c89_z o59_z o89_z F9_z N9_z TB9_z n59_z n89_z nD9_z S59_z S89_z hP9_z; obtain ⟨E59_z, E89_z⟩ := since_step (by assumption) (by assumption) (by assumption) (by k_mem) (by k_mem) (by k_mem) (by k_mem) (by assumption) (by assumption) S59_z S89_z; clear S59_z S89_z; simp only [tail4, List.cons_append, List.nil_append] at N9_z nD9_z; simp only [AllNe, and_true] at n59_z n89_z nD9_z; obtain ⟨t91_z, t92_z, c9_z, e9_z⟩ := hP9_z; subst e9_z; (try k_sweep)) | walk1)) | (leave1; walk_say "STEP leave1"; (try dsimp only)) | fail "no step"))
  all_goals (try (exfalso; omega))
  (rename News _ _ _ _ => N9)
  (rename Fr _ _ _ _ => F9)
  (rename Tabs _ _ _ _ _ _ => TB9)
  refine' hret _ _ _ (fun b o hb e => F9.keep b o (by rw [hg']; exact hideAll_get _ e hb)) ⟨tabs_since TB9 N9 (by k_mem) (by k_mem) (by k_mem) (by k_mem) (by assumption) (by assumption), ?w⟩
  exact ret_tup2 N9 hgg (by k_mem) (off_since TB9 (by assumption) (by assumption) (by omega) (by omega) (by omega) (by omega))
end Mine
end

section
open PySem PySem.W PySem.Calls PySem.Spec PyProof.Rows
namespace Mine
noncomputable def quoF : Nat → Int → Int → List Int
  | 0, _, _ => []
  | f + 1, u, d => if d = 0 then [] else u.fdiv d :: quoF f d (u.fmod d)
theorem quoF_fuel : ∀ (f f' : Nat) (u d : Int), 0 ≤ d → d.toNat < f → d.toNat < f' → quoF f u d = quoF f' u d
  | 0, _, _, _, _, h, _ => by omega
  | _, 0, _, _, _, _, h => by omega
  | f + 1, f' + 1, u, d, hd, h, h' => by
    unfold quoF
    by_cases e : d = 0
    · rw [if_pos e, if_pos e]
    · rw [if_neg e, if_neg e]
      have hb := fmod_bound (x := u) (b := d) (by omega)
      rw [quoF_fuel f f' d (u.fmod d) hb.1 (by omega) (by omega)]
theorem quoF_step {u d : Int} (hd : 1 ≤ d) : quoF (d.toNat + 1) u d = u.fdiv d :: quoF ((u.fmod d).toNat + 1) d (u.fmod d) := by
  have hb := fmod_bound (x := u) (b := d) hd
  rw [quoF, if_neg (by omega)]
  rw [quoF_fuel d.toNat ((u.fmod d).toNat + 1) d (u.fmod d) hb.1 (by omega) (by omega)]
noncomputable def quoRow (u d : Int) : List Int := let q := quoF (d.toNat + 1) u d; q ++ List.replicate (10 - q.length) 1000000
theorem intsAre_replicate {t : Tok} {c : Int} : ∀ k : Nat, IntsAre (List.replicate k (Value.int c t)) (List.replicate k c)
  | 0 => .nil
  | k + 1 => .cons c t (intsAre_replicate k)
end Mine
end

section
open PySem PySem.W PySem.Calls PySem.Spec PyProof.Rows
set_option maxRecDepth 100000
set_option maxHeartbeats 8000000
namespace Mine
noncomputable def quM (m₀ u : Str → Option Value) (up : Int) (tu : Tok) (down : Int) (td : Tok) : Str → Option Value := fun y => if y = Str.ofString "up" then some (.int up tu) else if y = Str.ofString "down" then some (.int down td) else if y = Str.ofString "share" then u y else if y = Str.ofString "rest" then u y else m₀ y
theorem quM_of {m₀ m' : Str → Option Value} {up down : Int} {tu td : Tok} (h : ∀ y, y ≠ Str.ofString "up" → y ≠ Str.ofString "down" → y ≠ Str.ofString "share" → y ≠ Str.ofString "rest" → m' y = m₀ y) (hu : m' (Str.ofString "up") = some (.int up tu)) (hd : m' (Str.ofString "down") = some (.int down td)) : m' = quM m₀ m' up tu down td := by
  funext y
  unfold quM
  by_cases h1 : y = Str.ofString "up"
  · rw [if_pos h1, h1, hu]
  · rw [if_neg h1]
    by_cases h2 : y = Str.ofString "down"
    · rw [if_pos h2, h2, hd]
    · rw [if_neg h2]
      by_cases h3 : y = Str.ofString "share"
      · rw [if_pos h3]
      · rw [if_neg h3]
        by_cases h4 : y = Str.ofString "rest"
        · rw [if_pos h4]
        · rw [if_neg h4, h y h1 h2 h3 h4]
/-- behind one turn -/
noncomputable def QuStep (h₀ : Heap) (L : Addr) (s : Shared) (he : Heap) (c5e c8e lr : Addr) (m₀ : Str → Option Value) (up down : Int) (vsq : Array Value) (Q : Flow → Shared → Prop) (f : Flow) (s₃ : Shared) : Prop :=
  match f with
  | .next | .cont => ∃ h' tk m' t1 tu td cq' t5 t8 c5 c8 o5 o8, s₃ = { s with heap := h', toks := tk } ∧ Fr h₀ L h' m' ∧ News h₀ L h' ((lr, W.listOf (vsq.push (.int (up.fdiv down) t1)) cq') :: tail4 t5 t8 c5 c8 o5 o8) ∧ Tabs t5 t8 c5 c8 o5 o8 ∧ Since 65 he c5e c5 ∧ Since 58 he c8e c8 ∧ @Ne Nat lr c5 ∧ @Ne Nat lr c8 ∧ 1 ≤ down ∧
      (∀ y, y ≠ Str.ofString "up" → y ≠ Str.ofString "down" → y ≠ Str.ofString "share" → y ≠ Str.ofString "rest" → m' y = m₀ y) ∧ m' (Str.ofString "up") = some (.int down tu) ∧ m' (Str.ofString "down") = some (.int (up.fmod down) td)
  | .brk => Q .next s₃
  | .ret v => Q (.ret v) s₃
section
variable {prog : Program} {w : World} {A : Around} {E : Value → Shared → Prop} {Q : Flow → Shared → Prop} {s : Shared} {env : Env} {h₀ : Heap} {L : Addr}
theorem quo_loop {test : PySem.Expr} {body : List Stmt} {pos : Pos} {he : Heap} {c5e c8e lr c5 c8 : Addr} {t5 t8 o5 o8 : Obj} {up0 down0 : Int} {tu0 td0 : Tok} {m₀ : Str → Option Value}
    (F : Fr h₀ L s.heap m₀) (N : News h₀ L s.heap ((lr, W.listOf #[] 0) :: tail4 t5 t8 c5 c8 o5 o8)) (TB : Tabs t5 t8 c5 c8 o5 o8) (E5 : Since 65 he c5e c5) (E8 : Since 58 he c8e c8) (n5 : @Ne Nat lr c5) (n8 : @Ne Nat lr c8)
    (hu0 : m₀ (Str.ofString "up") = some (.int up0 tu0)) (hd0 : m₀ (Str.ofString "down") = some (.int down0 td0)) (hu1 : 0 ≤ up0 ∧ up0 < 1024) (hd1 : 0 ≤ down0 ∧ down0 < 1000)
    (turn : ∀ (up down : Int) (tu td : Tok) (vsq : Array Value) (cq : Nat) (qs : List Int) (u : Str → Option Value) (t5 t8 : Obj) (c5 c8 : Addr) (o5 o8 : Obj) (h : Heap) (tk : Nat), 0 ≤ up → up < 1024 → 0 ≤ down → down < 1000 → vsq.size ≤ 1000 → IntsAre vsq.toList qs →
      quoF (down0.toNat + 1) up0 down0 = qs ++ quoF (down.toNat + 1) up down → Tabs t5 t8 c5 c8 o5 o8 → Since 65 he c5e c5 → Since 58 he c8e c8 → @Ne Nat lr c5 → @Ne Nat lr c8 →
      Fr h₀ L h (quM m₀ u up tu down td) → News h₀ L h ((lr, W.listOf vsq cq) :: tail4 t5 t8 c5 c8 o5 o8) →
      wpAny (model prog w) A (isTrue test env (eval test env)) (fun b s₂ =>
        if b = true then wpAny (model prog w) A (execs body env) (QuStep h₀ L s he c5e c8e lr m₀ up down vsq Q) E s₂ else Q .next s₂) E { s with heap := h, toks := tk })
    (hE : PassesOwn (model prog w) A env E := by passes_own) :
    wpAny (model prog w) A (exec (.While test body [] pos) env) Q E s := by
  refine While_inv2 (n₀ := down0.toNat) (fun n m news => ∃ (up down : Int) (tu td : Tok) (vsq : Array Value) (cq : Nat) (qs : List Int) (u : Str → Option Value) (t5 t8 : Obj) (c5 c8 : Addr) (o5 o8 : Obj), n = down.toNat ∧ 0 ≤ up ∧ up < 1024 ∧ 0 ≤ down ∧ down < 1000 ∧ qs.length + down.toNat ≤ down0.toNat ∧ IntsAre vsq.toList qs ∧
      quoF (down0.toNat + 1) up0 down0 = qs ++ quoF (down.toNat + 1) up down ∧ Tabs t5 t8 c5 c8 o5 o8 ∧ Since 65 he c5e c5 ∧ Since 58 he c8e c8 ∧ @Ne Nat lr c5 ∧ @Ne Nat lr c8 ∧ m = quM m₀ u up tu down td ∧ news = (lr, W.listOf vsq cq) :: tail4 t5 t8 c5 c8 o5 o8) F N
    ⟨up0, down0, tu0, td0, #[], 0, [], m₀, t5, t8, c5, c8, o5, o8, rfl, hu1.1, hu1.2, hd1.1, hd1.2, by simp, .nil, rfl, TB, E5, E8, n5, n8, quM_of (fun _ _ _ _ _ => rfl) hu0 hd0, rfl⟩ ?_ hE
  rintro n m₁ news₁ h₁ tk₁ F₁ N₁ ⟨up, down, tu, td, vsq, cq, qs, u, t5, t8, c5, c8, o5, o8, rfl, a1, a2, a3, a4, a5, a6, a7, TB, E5, E8, n5, n8, rfl, rfl⟩
  have hvl : vsq.size ≤ 1000 := by
    have := a6.length
    simp only [Array.length_toList] at this
    omega (splitDisjunctions := true)
  refine wpAny_mono (turn up down tu td vsq cq qs u t5 t8 c5 c8 o5 o8 h₁ tk₁ a1 a2 a3 a4 hvl a6 a7 TB E5 E8 n5 n8 F₁ N₁) (fun b s₂ p => ?_) fun _ _ x => x
  cases b with
  | false => simpa using p
  | true =>
    simp only [if_true] at p ⊢
    refine wpAny_mono p (fun f s₃ q => ?_) fun _ _ x => x
    have key : QuStep h₀ L s he c5e c8e lr m₀ up down vsq Q .next s₃ → WhileStep2 h₀ L s (fun n m news => ∃ (up down : Int) (tu td : Tok) (vsq : Array Value) (cq : Nat) (qs : List Int) (u : Str → Option Value) (t5 t8 : Obj) (c5 c8 : Addr) (o5 o8 : Obj), n = down.toNat ∧ 0 ≤ up ∧ up < 1024 ∧ 0 ≤ down ∧ down < 1000 ∧ qs.length + down.toNat ≤ down0.toNat ∧ IntsAre vsq.toList qs ∧
      quoF (down0.toNat + 1) up0 down0 = qs ++ quoF (down.toNat + 1) up down ∧ Tabs t5 t8 c5 c8 o5 o8 ∧ Since 65 he c5e c5 ∧ Since 58 he c8e c8 ∧ @Ne Nat lr c5 ∧ @Ne Nat lr c8 ∧ m = quM m₀ u up tu down td ∧ news = (lr, W.listOf vsq cq) :: tail4 t5 t8 c5 c8 o5 o8) Q down.toNat .next s₃ := by
      rintro ⟨h', tk, m', t1, tu', td', cq', t5', t8', c5', c8', o5', o8', e, F', N', TB', E5', E8', n5', n8', hd, hm, hmu, hmd⟩
      have hb := fmod_bound (x := up) (b := down) hd
      refine ⟨h', tk, m', _, (up.fmod down).toNat, e, F', N', by omega (splitDisjunctions := true), down, up.fmod down, tu', td', _, cq', qs ++ [up.fdiv down], m', t5', t8', c5', c8', o5', o8', rfl, by omega (splitDisjunctions := true), by omega (splitDisjunctions := true), hb.1, by omega (splitDisjunctions := true), ?_, intsAre_push a6, ?_, TB', E5', E8', n5', n8', quM_of hm hmu hmd, rfl⟩
      · simp only [List.length_append, List.length_cons, List.length_nil]; omega (splitDisjunctions := true)
      · rw [a7, quoF_step hd]; simp
    cases f with
    | ret v => exact q
    | brk => exact q
    | next => exact key q
    | cont => exact key q
end
end Mine
end

section
open PySem PySem.W PySem.Calls PySem.Spec PyProof.Rows
set_option maxRecDepth 100000
set_option maxHeartbeats 8000000
namespace Mine
section
variable {prog : Program} {w : World} {A : Around} {E : Value → Shared → Prop} {s : Shared} {h₀ : Heap} {L : Addr} {m : Str → Option Value} {news : List (Addr × Obj)} {Q : Value → Shared → Prop}
theorem add_led {a b : Addr} {its its2 : Array Value} {n n2 : Nat} (F : Fr h₀ L s.heap m) (N : News h₀ L s.heap news) (ha : (a, W.listOf its n) ∈ news) (hb : (b, W.listOf its2 n2) ∈ news) (hz : its.size + its2.size ≤ 1000000)
    (h : ∀ D h', Fr h₀ L h' m → News h₀ L h' ((D, W.listOf (its ++ its2) 0) :: news) → (∀ p ∈ news, p.1 < D) → Q (.ref D) { s with heap := h' }) :
    wpAny (model prog w) A (binaryOp .Add (.ref a) (.ref b)) Q E s :=
  PySem.P.add_list (items := its) (items2 := its2) (n := n) (n2 := n2) (N.get ha) (N.get hb) (h _ _ (F.push _) (News.push F N _) fun p hp => Heap.lt_size (N p hp).1) (by rw [sizeLine_eq]; omega)
end
end Mine
end

theorem Mine.fresh23 : True := by
  w_top off
  trivial
section
open PySem PySem.W PySem.Calls PySem.Spec PyProof.Rows
set_option maxRecDepth 100000
set_option maxHeartbeats 8000000
namespace Mine
theorem quoRow_ints {up down : Int} {vsq : Array Value} {qs : List Int} {t : Tok} (hq : IntsAre vsq.toList qs) (hzz : quoF (down.toNat + 1) up down = qs) : IntsAre (vsq ++ Array.replicate (10 - (vsq.size : Int)).toNat (Value.int 1000000 t)).toList (quoRow up down) := by
  unfold quoRow
  rw [hzz, Array.toList_append, Array.toList_replicate]
  have hl := hq.length
  rw [Array.length_toList] at hl
  have e : (10 - (vsq.size : Int)).toNat = 10 - qs.length := by omega
  rw [e]
  exact hq.append (intsAre_replicate _)
theorem d_quo {w : World} {up down : Int} {t1 t2 : Tok} {s : Shared} (h0 : 0 ≤ up) (h1 : up < 1024) (h2 : 0 ≤ down) (h3 : down < 1000) :
    DoesT w 52 105 [.int up t1, .int down t2] s (fun v h => ∃ D, v = .ref D ∧ s.heap.get? D = none ∧ ∃ o, h.get? D = some o ∧ (∃ its c, o.data = .seq its c) ∧ ∃ vs c, o = W.listOf vs c ∧ IntsAre vs.toList (quoRow up down)) := by
  intro t5 t8 c5 c8 o5 o8 TB
  intro p loose mean mg mb dp un gd cn cs fa ccd cl outer A₀ base h₀ L m Q E B F N X T hk hd hu hret
  refine wpAny_call ?_
  k_dflt ((refine' enterK ?k1 ?k2 ?k3 ?k4 ?k5 ?kA ?kF ?kK ?k6 ?k7 ?k8 ?k9 ?kB ?_ ?c2 ?c3 ?c4 ?c5; (case kA => exact rfl); (case kF => exact rfl); (case kK => assumption); (case k1 => k_asm); (case k2 => k_asm); (case k3 => k_asm); (case k4 => k_asm); (case k5 => k_asm); (case k6 => k_is); (case k7 => k_is); (case k8 => ktr_room); (case k9 => exact BindsTo.of_eq rfl); (case c5 => decide); (case kB => exact locs rfl); (case c2 => exact rfl); (case c3 => exact rfl); (case c4 => exact rfl); k_whole))
  intro g' L' h' hg' F' N' B' X' T' l0'
  have hgg : g' = hideAll s.heap [65, 58, c5, c8] := hg'
  have E5 : Since 65 s.heap c5 c5 := .inl rfl
  have E8 : Since 58 s.heap c8 c8 := .inl rfl
  have l0 := l0'
  k_lt l0
  simp only [tail4] at N'
  (try dsimp only)
  (try k_fold)
  (repeat' (first | (k_unfold; (try dsimp only)) | (k_end; kc_close) | (first | ((with_reducible show wpAny _ _ (eval (PySem.Expr.Name _ _) _) _ _ _); k_dflt (refine' nameX_L ?F ?v ?_ ?a ?b (by decide); (case F => k_asm); (case v => exact Eq.refl (some _)); (case a => exact Eq.refl ScopeKind.function); (case b => exact Eq.refl (some NameKind.local)); k_whole)) | ((with_reducible show wpAny _ _ (eval (PySem.Expr.BinOp (PySem.Expr.Name _ _) _ (PySem.Expr.Name _ _) _) _) _ _ _); k_dflt (refine' bin_nn ?F ?v ?v2 ?_ ?a ?b ?b2 (by decide) (by decide); (case F => k_asm); (case v => exact Eq.refl (some _)); (case a => exact Eq.refl ScopeKind.function); (case b => exact Eq.refl (some NameKind.local)); (case v2 => exact Eq.refl (some _)); (case b2 => exact Eq.refl (some NameKind.local)); k_whole)) | ((with_reducible show wpAny _ _ (eval (PySem.Expr.BinOp (PySem.Expr.Name _ _) _ _ _) _) _ _ _); k_dflt (refine' bin_n ?F ?v ?_ ?a ?b (by decide); (case F => k_asm); (case v => exact Eq.refl (some _)); (case a => exact Eq.refl ScopeKind.function); (case b => exact Eq.refl (some NameKind.local)); k_whole)) | ((with_reducible show wpAny _ _ (execs (Stmt.Assign [PySem.Expr.Name _ _] _ _ :: _) _) _ _ _); k_dflt (refine' asg ?_; k_whole)) | ((with_reducible show wpAny _ _ (storeName _ _ _) _ _ _); k_dflt (refine' st_tk ?F ?N ?_ ?a ?b; (case F => k_asm); (case N => k_asm); (case a => exact Eq.refl ScopeKind.function); (case b => exact Eq.refl (some NameKind.local)); k_whole); intro h_z tk_z F_z N_z; (try k_sweep)) | ((with_reducible show wpAny _ _ (spliced (backTo _ (starEach (PySem.Expr.Name _ _ :: _) _))) _ _ _); k_dflt (refine' sp_n ?F ?v ?_ ?a ?b (by decide); (case F => k_asm); (case v => exact Eq.refl (some _)); (case a => exact Eq.refl ScopeKind.function); (case b => exact Eq.refl (some NameKind.local)); k_whole)) | ((with_reducible show wpAny _ _ (spliced (backTo _ (starEach (PySem.Expr.Constant (PySem.Const.int _) _ _ :: _) _))) _ _ _); k_dflt (refine' sp_c ?_; k_whole)) | ((with_reducible show wpAny _ _ (binaryOp Operator.Add (Value.ref _) (Value.ref _)) _ _ _); k_dflt (refine' add_led ?k1 ?k2 ?k3 ?k4 ?k5 ?_; (case k1 => k_asm); (case k2 => k_asm); (case k3 => k_mem); (case k4 => k_mem); (case k5 => (simp only [Array.size_replicate, List.size_toArray, List.length_cons, List.length_nil]; omega)); k_whole); intro Dq_z hq_z Fq_z Nq_z l1_z; (try k_lt l1_z); (try k_sweep)) | ((with_reducible show wpAny _ _ (binaryOp Operator.Mult (Value.ref _) (Value.int _ _)) _ _ _); k_dflt (refine' mul_rep ?k1 ?k2 ?k3 ?k4 ?k5 ?_; (case k1 => k_asm); (case k2 => k_asm); (case k3 => k_mem); (case k4 => omega); (case k5 => omega); k_whole); intro lq_z hq_z Fq_z Nq_z l1_z; (try k_lt l1_z); (try k_sweep)) | ((with_reducible show wpAny _ _ (exec (Stmt.While _ _ _ _) _) _ _ _); k_dflt (refine' quo_loop ?F ?N ?TB ?E5 ?E8 ?n5 ?n8 ?hu ?hd ?u1 ?d1 ?turn; (case F => k_asm); (case N => k_asm); (case TB => assumption); (case E5 => assumption); (case E8 => assumption); (case n5 => omega); (case n8 => omega); (case hu => rfl); (case hd => rfl); (case u1 => exact ⟨by omega, by omega⟩); (case d1 => exact ⟨by omega, by omega⟩))) | ((with_reducible show wpAny _ _ (call (Value.builtin "len") [Value.ref _]) _ _ _); k_dflt (refine' len_led ?k1 ?k2 rfl ?k4 ?_; (case k1 => k_asm); (case k2 => k_mem); (case k4 => omega); k_whole); intro tq_z tkq_z; (try k_sweep)) | ((with_reducible show wpAny _ _ (call (Value.ref 84) _) _ _ _); k_dflt ((first | (refine' useT1 (rest := []) (d_idm ?a1 ?a2 ?a3 ?a4) ?tb ?k1 ?k2 ?k3 ?k4 ?kK ?k5 ?kne ?kd ?ku ?_; (case k5 => k_asm)) | (refine' useT1 (rest := [_]) (d_idm ?a1 ?a2 ?a3 ?a4) ?tb ?k1 ?k2 ?k3 ?k4 ?kK ?k5 ?kne ?kd ?ku ?_; (case k5 => k_asm)) | (refine' useT1 (rest := [_, _]) (d_idm ?a1 ?a2 ?a3 ?a4) ?tb ?k1 ?k2 ?k3 ?k4 ?kK ?k5 ?kne ?kd ?ku ?_; (case k5 => k_asm)) | (refine' useT1 (rest := [_, _, _]) (d_idm ?a1 ?a2 ?a3 ?a4) ?tb ?k1 ?k2 ?k3 ?k4 ?kK ?k5 ?kne ?kd ?ku ?_; (case k5 => k_asm)) | (refine' useT1 (rest := [_, _, _, _]) (d_idm ?a1 ?a2 ?a3 ?a4) ?tb ?k1 ?k2 ?k3 ?k4 ?kK ?k5 ?kne ?kd ?ku ?_; (case k5 => k_asm)) | (refine' useT1 (rest := [_, _, _, _, _]) (d_idm ?a1 ?a2 ?a3 ?a4) ?tb ?k1 ?k2 ?k3 ?k4 ?kK ?k5 ?kne ?kd ?ku ?_; (case k5 => k_asm)) | (refine' useT1 (rest := [_, _, _, _, _, _]) (d_idm ?a1 ?a2 ?a3 ?a4) ?tb ?k1 ?k2 ?k3 ?k4 ?kK ?k5 ?kne ?kd ?ku ?_; (case k5 => k_asm))); (case k1 => k_asm); (case k2 => k_asm); (case k3 => k_asm); (case k4 => k_asm); (case tb => assumption); (case kK => rfl); (case a1 => omega); (case a2 => omega); (case a3 => omega); (case a4 => omega); (case kne => ((repeat (refine' List.forall_mem_cons.mpr ⟨⟨neN ?_, neN ?_, neN ?_, neN ?_⟩, ?_⟩; (iterate 4 (first | (dsimp only; omega) | omega)))); exact List.forall_mem_nil _)); (case kd => ktr_room); (case ku => ktr_units); k_whole); intro D9_z o9_z h9_z tk9_z t59_z t89_z c59_z c89_z o59_z o89_z F9_z N9_z TB9_z n59_z n89_z nD9_z S59_z S89_z hP9_z; obtain ⟨E59_z, E89_z⟩ := since_step (by assumption) (by assumption) (by assumption) (by k_mem) (by k_mem) (by k_mem) (by k_mem) (by assumption) (by assumption) S59_z S89_z; clear S59_z S89_z; simp only [tail4, List.cons_append, List.nil_append] at N9_z nD9_z; simp only [AllNe, and_true] at n59_z n89_z nD9_z; obtain ⟨t91_z, t92_z, c9_z, e9_z⟩ := hP9_z; subst e9_z; (try k_sweep)) | walk1) | (dsimp only; (first | ((with_reducible show wpAny _ _ (eval (PySem.Expr.Name _ _) _) _ _ _); k_dflt (refine' nameX_L ?F ?v ?_ ?a ?b (by decide); (case F => k_asm); (case v => exact Eq.refl (some _)); (case a => exact Eq.refl ScopeKind.function); (case b => exact Eq.refl (some NameKind.local)); k_whole)) | ((with_reducible show wpAny _ _ (eval (PySem.Expr.BinOp (PySem.Expr.Name _ _) _ (PySem.Expr.Name _ _) _) _) _ _ _); k_dflt (refine' bin_nn ?F ?v ?v2 ?_ ?a ?b ?b2 (by decide) (by decide); (case F => k_asm); (case v => exact Eq.refl (some _)); (case a => exact Eq.refl ScopeKind.function); (case b => exact Eq.refl (some NameKind.local)); (case v2 => exact Eq.refl (some _)); (case b2 => exact Eq.refl (some NameKind.local)); k_whole)) | ((with_reducible show wpAny _ _ (eval (PySem.Expr.BinOp (PySem.Expr.Name _ _) _ _ _) _) _ _ _); k_dflt (refine' bin_n ?F ?v ?_ ?a ?b (by decide); (case F => k_asm); (case v => exact Eq.refl (some _)); (case a => exact Eq.refl ScopeKind.function); (case b => exact Eq.refl (some NameKind.local)); k_whole)) | ((with_reducible show wpAny _ _ (execs (Stmt.Assign [PySem.Expr.Name _ _] _ _ :: _) _) _ _ _); k_dflt (refine' asg ?_; k_whole)) | ((with_reducible show wpAny _ _ (storeName _ _ _) _ _ _); k_dflt (refine' st_tk ?F ?N ?_ ?a ?b; (case F => k_asm); (case N => k_asm); (case a => exact Eq.refl ScopeKind.function); (case b => exact Eq.refl (some NameKind.local)); k_whole); intro h_z tk_z F_z N_z; (try k_sweep)) | ((with_reducible show wpAny _ _ (spliced (backTo _ (starEach (PySem.Expr.Name _ _ :: _) _))) _ _ _); k_dflt (refine' sp_n ?F ?v ?_ ?a ?b (by decide); (case F => k_asm); (case v => exact Eq.refl (some _)); (case a => exact Eq.refl ScopeKind.function); (case b => exact Eq.refl (some NameKind.local)); k_whole)) | ((with_reducible show wpAny _ _ (spliced (backTo _ (starEach (PySem.Expr.Constant (PySem.Const.int _) _ _ :: _) _))) _ _ _); k_dflt (refine' sp_c ?_; k_whole)) | ((with_reducible show wpAny _ _ (binaryOp Operator.Add (Value.ref _) (Value.ref _)) _ _ _); k_dflt (refine' add_led ?k1 ?k2 ?k3 ?k4 ?k5 ?_; (case k1 => k_asm); (case k2 => k_asm); (case k3 => k_mem); (case k4 => k_mem); (case k5 => (simp only [Array.size_replicate, List.size_toArray, List.length_cons, List.length_nil]; omega)); k_whole); intro Dq_z hq_z Fq_z Nq_z l1_z; (try k_lt l1_z); (try k_sweep)) | ((with_reducible show wpAny _ _ (binaryOp Operator.Mult (Value.ref _) (Value.int _ _)) _ _ _); k_dflt (refine' mul_rep ?k1 ?k2 ?k3 ?k4 ?k5 ?_; (case k1 => k_asm); (case k2 => k_asm); (case k3 => k_mem); (case k4 => omega); (case k5 => omega); k_whole); intro lq_z hq_z Fq_z Nq_z l1_z; (try k_lt l1_z); (try k_sweep)) | ((with_reducible show wpAny _ _ (exec (Stmt.While _ _ _ _) _) _ _ _); k_dflt (refine' quo_loop ?F ?N ?TB ?E5 ?E8 ?n5 ?n8 ?hu ?hd ?u1 ?d1 ?turn; (case F => k_asm); (case N => k_asm); (case TB => assumption); (case E5 => assumption); (case E8 => assumption); (case n5 => omega); (case n8 => omega); (case hu => rfl); (case hd => rfl); (case u1 => exact ⟨by omega, by omega⟩); (case d1 => exact ⟨by omega, by omega⟩))) | ((with_reducible show wpAny _ _ (call (Value.builtin "len") [Value.ref _]) _ _ _); k_dflt (refine' len_led ?k1 ?k2 rfl ?k4 ?_; (case k1 => k_asm); (case k2 => k_mem); (case k4 => omega); k_whole); intro tq_z tkq_z; (try k_sweep)) | ((with_reducible show wpAny _ _ (call (Value.ref 84) _) _ _ _); k_dflt ((first | (refine' useT1 (rest := []) (d_idm ?a1 ?a2 ?a3 ?a4) ?tb ?k1 ?k2 ?k3 ?k4 ?kK ?k5 ?kne ?kd ?ku ?_; (case k5 => k_asm)) | (refine' useT1 (rest := [_]) (d_idm ?a1 ?a2 ?a3 ?a4) ?tb ?k1 ?k2 ?k3 ?k4 ?kK ?k5 ?kne ?kd ?ku ?_; (case k5 => k_asm)) | (refine' useT1 (rest := [_, _]) (d_idm ?a1 ?a2 ?a3 ?a4) ?tb ?k1 ?k2 ?k3 ?k4 ?kK ?k5 ?kne ?kd ?ku ?_; (case k5 => k_asm)) | (refine' useT1 (rest := [_, _, _]) (d_idm ?a1 ?a2 ?a3 ?a4) ?tb ?k1 ?k2 ?k3 ?k4 ?kK ?k5 ?kne ?kd ?ku ?_; (case k5 => k_asm)) | (refine' useT1 (rest := [_, _, _, _]) (d_idm ?a1 ?a2 ?a3 ?a4) ?tb ?k1 ?k2 ?k3 ?k4 ?kK ?k5 ?kne ?kd ?ku ?_; (case k5 => k_asm)) | (refine' useT1 (rest := [_, _, _, _, _]) (d_idm ?a1 ?a2 ?a3 ?a4) ?tb ?k1 ?k2 ?k3 ?k4 ?kK ?k5 ?kne ?kd ?ku ?_; (case k5 => k_asm)) | (refine' useT1 (rest := [_, _, _, _, _, _]) (d_idm ?a1 ?a2 ?a3 ?a4) ?tb ?k1 ?k2 ?k3 ?k4 ?kK ?k5 ?kne ?kd ?ku ?_; (case k5 => k_asm))); (case k1 => k_asm); (case k2 => k_asm); (case k3 => k_asm); (case k4 => k_asm); (case tb => assumption); (case kK => rfl); (case a1 => omega); (case a2 => omega); (case a3 => omega); (case a4 => omega); (case kne => ((repeat (refine' List.forall_mem_cons.mpr ⟨⟨neN ?_, neN ?_, neN ?_, neN ?_⟩, ?_⟩; (iterate 4 (first | (dsimp only; omega) | omega)))); exact List.forall_mem_nil _)); (case kd => ktr_room); (case ku => ktr_units); k_whole); intro D9_z o9_z h9_z tk9_z t59_z t89_z c59_z c89_z o59_z o89_z F9_z N9_z TB9_z n59_z n89_z nD9_z S59_z S89_z hP9_z; obtain ⟨E59_z, E89_z⟩ := since_step (by assumption) (by assumption) (by assumption) (by k_mem) (by k_mem) (by k_mem) (by k_mem) (by assumption) (by assumption) S59_z S89_z; clear S59_z S89_z; simp only [tail4, List.cons_append, List.nil_append] at N9_z nD9_z; simp only [AllNe, and_true] at n59_z n89_z nD9_z; obtain ⟨t91_z, t92_z, c9_z, e9_z⟩ := hP9_z; subst e9_z; (try k_sweep)) | walk1)) | (leave1; walk_say "STEP leave1"; (try dsimp only)) | fail "no step"))
  · (rename News _ _ _ _ => NT)
    (rename Fr _ _ _ _ => FT)
    (rename Tabs _ _ _ _ _ _ => TB9)
    refine' ⟨_, _, _, _, _, _, _, _, _, _, _, _, _, rfl, FT, ?N, TB9, ?e5, ?e8, ?x5, ?x8, ?d1, ?hm, ?hu, ?hd⟩
    case N => (refine' cb_drop NT ?sub; (case sub => (repeat' (first | exact List.forall_mem_nil _ | refine List.forall_mem_cons.mpr ⟨by k_mem, ?_⟩))))
    case e5 => assumption
    case e8 => assumption
    case x5 => omega
    case x8 => omega
    case d1 => omega
    case hu => rfl
    case hd => rfl
    case hm =>
      intro y e1 e2 e3 e4
      simp only [quM, e1, e2, e3, e4, if_false]
  · (rename News _ _ _ _ => N9)
    (rename Fr _ _ _ _ => F9)
    (rename Tabs _ _ _ _ _ _ => TB9)
    (rename IntsAre _ _ => hq)
    (rename quoF (down.toNat + 1) up down = _ => hfull)
    (rename (_ : Int) = 0 => hz)
    (rename List Int => qs)
    have hzz : quoF (down.toNat + 1) up down = qs := hfull.trans (by rw [hz]; exact List.append_nil _)
    refine' hret _ _ _ (fun b o hb e => F9.keep b o (by rw [hg']; exact hideAll_get _ e hb)) ⟨tabs_since TB9 N9 (by k_mem) (by k_mem) (by k_mem) (by k_mem) (by assumption) (by assumption), ?w⟩
    refine ret_list N9 hgg (by k_mem) (off_since TB9 (by assumption) (by assumption) (by omega) (by omega) (by omega) (by omega)) ?_
    exact quoRow_ints hq hzz
end Mine
end

local macro_rules | `(tactic| walk_at "PAD 1") => `(tactic| skip)
theorem Mine.fresh24 : True := by
  w_top off
  trivial
section
open PySem PySem.W PySem.Calls PySem.Spec PyProof.Rows
set_option maxRecDepth 100000
set_option maxHeartbeats 8000000
namespace Mine
/-- the sixth of the wheel that a set of channels stands for (bits 4, 2, 1): its place among 4, 6, 2, 3, 1, 5 -/
noncomputable def sixthOf (c0 c1 c2 : Bool) : Int := match c0, c1, c2 with
  | true, false, false => 0
  | true, true, false => 1
  | false, true, false => 2
  | false, true, true => 3
  | false, false, true => 4
  | true, false, true => 5
  | _, _, _ => 0
noncomputable def leadI (r g b : Int) : Int := sixthOf (decide (r = max r (max g b))) (decide (g = max r (max g b))) (decide (b = max r (max g b)))
noncomputable def bothI (r g b : Int) : Int := sixthOf (decide (r > min r (min g b))) (decide (g > min r (min g b))) (decide (b > min r (min g b)))
inductive Mark (x : Str) (v : Int) : Prop where
  | mk : Mark x v
noncomputable def JoinA (h₀ : Heap) (L : Addr) (m : Str → Option Value) (news : List (Addr × Obj)) (x : Str) (val : Int) (s : Shared) (f : Flow) (s' : Shared) : Prop :=
  f = .next ∧ ∃ t h' tk', s' = { s with heap := h', toks := tk' } ∧ Fr h₀ L h' (fun y => if y = x then some (.int val t) else m y) ∧ News h₀ L h' news
theorem join_assign {M : Model} {A : Around} {E : Value → Shared → Prop} {s : Shared} {h₀ : Heap} {L : Addr} {m : Str → Option Value} {news : List (Addr × Obj)} {Q : Flow → Shared → Prop} {x : Str} {px pos : Pos} {e : PySem.Expr} {env : Env} {val : Int} (_mk : Mark x val) (_F : Fr h₀ L s.heap m) (_N : News h₀ L s.heap news)
    (walk : wpAny M A (exec (.Assign [.Name x px] e pos) env) (JoinA h₀ L m news x val s) E s)
    (cont : ∀ t h' tk', Fr h₀ L h' (fun y => if y = x then some (.int val t) else m y) → News h₀ L h' news → Q .next { s with heap := h', toks := tk' }) : wpAny M A (exec (.Assign [.Name x px] e pos) env) Q E s := by
  refine wpAny_mono walk (fun f s' h => ?_) fun _ _ h => h
  obtain ⟨rfl, t, h', tk', rfl, F', N'⟩ := h
  exact cont t h' tk' F' N'
theorem item_led {prog : Program} {w : World} {A : Around} {E : Value → Shared → Prop} {s : Shared} {h₀ : Heap} {L l : Addr} {news : List (Addr × Obj)} {its : Array Value} {c : Nat} {value slice : PySem.Expr} {k : Int} {u : Tok} {v : Value} {Q : Value → Shared → Prop}
    (N : News h₀ L s.heap news) (hm : (l, W.listOf its c) ∈ news) (h0 : 0 ≤ k) (hhi : k < 2 ^ 63) (hx : its[k.toNat]? = some v) (h : Q v s)
    (hs : subscripted slice false (.ref l) (.int k u) = operate [.ref l, .int k u] (getItem (.ref l) (.int k u)) := by with_unfolding_all rfl) :
    wpAny (model prog w) A (subscriptTail value slice (.ref l) (.int k u)) Q E s :=
  have hl : s.heap.IsList l its := News.isList N hm
  tail_any hl.typeIs slot_list_getitem.lookup (wpAny_getItem_list hl h0 hhi hx h) hs
structure Hid (P : Prop) : Prop where
  out : P
local macro_rules | `(tactic| walk_at "CompRestT") => `(tactic| (with_unfolding_all (refine LCt.CompRestT.succ ?_; intro v' I' oI' C' oC' D' m' h' tk' E' hv' hC' hx' F' N' off' ne'; (first | lcg_open hv' | (obtain ⟨t9', hv9'⟩ := hv'; subst hv9')); (replace ne' := Hid.mk ne'))))
local macro_rules | `(tactic| k_ne) => `(tactic| ((try dsimp only); first | exact (LCg.Off3.mem (by assumption) (_, _) (by k_mem)).1 | exact (LCg.Off3.mem (by assumption) (_, _) (by k_mem)).2.1 | exact (LCg.Off3.mem (by assumption) (_, _) (by k_mem)).2.2 | (refine neN ?_; omega)))
noncomputable def wayF (r g b : Int) : Int × Int × Int :=
  if min r (min g b) = max r (max g b) then (0, 0, 1)
  else if leadI r g b = bothI r g b then (leadI r g b, 0, max r (max g b) - min r (min g b))
  else if (leadI r g b + 1).fmod 6 = bothI r g b then (leadI r g b, r + g + b - min r (min g b) - max r (max g b) - min r (min g b), max r (max g b) - min r (min g b))
  else (bothI r g b, max r (max g b) - (r + g + b - min r (min g b) - max r (max g b)), max r (max g b) - min r (min g b))
theorem pickT {p : Prop} (h : p) : (p ↔ true = true) := ⟨fun _ => rfl, fun _ => h⟩
theorem pickF {p : Prop} (h : ¬ p) : (p ↔ false = true) := ⟨fun x => absurd x h, fun x => nomatch x⟩
theorem pickL {x y : Int} (h : y ≤ x) : (x < y ↔ false = true) := ⟨fun z => absurd z (Int.not_lt.mpr h), fun z => nomatch z⟩
theorem dec_of {p : Prop} [Decidable p] {c : Bool} (h : p ↔ c = true) : decide p = c := by
  cases c with
  | true => exact decide_eq_true (h.mpr rfl)
  | false => exact decide_eq_false fun x => nomatch h.mp x
theorem lead_eq {r g b lo hi : Int} {c0 c1 c2 : Bool} (hh : Hid (lo = min r (min g b) ∧ hi = max r (max g b))) (h0 : r = hi ↔ c0 = true) (h1 : g = hi ↔ c1 = true) (h2 : b = hi ↔ c2 = true) : leadI r g b = sixthOf c0 c1 c2 := by
  obtain ⟨⟨_, e⟩⟩ := hh
  unfold leadI
  rw [← e, dec_of h0, dec_of h1, dec_of h2]
theorem both_eq {r g b lo hi : Int} {c0 c1 c2 : Bool} (hh : Hid (lo = min r (min g b) ∧ hi = max r (max g b))) (h0 : lo < r ↔ c0 = true) (h1 : lo < g ↔ c1 = true) (h2 : lo < b ↔ c2 = true) : bothI r g b = sixthOf c0 c1 c2 := by
  obtain ⟨⟨e, _⟩⟩ := hh
  unfold bothI
  rw [← e]
  show sixthOf (decide (lo < r)) (decide (lo < g)) (decide (lo < b)) = _
  rw [dec_of h0, dec_of h1, dec_of h2]
theorem way_no {r g b lo hi : Int} {c0 c1 c2 : Bool} (hh : Hid (lo = min r (min g b) ∧ hi = max r (max g b))) (hne : lo ≠ hi) (h0 : r = hi ↔ c0 = true) (h1 : g = hi ↔ c1 = true) (h2 : b = hi ↔ c2 = true) (e1 : c0 = c1) (e2 : c1 = c2) : False := by
  obtain ⟨⟨e, e'⟩⟩ := hh
  subst e1 e2
  cases c0 with
  | true => have a := h0.mpr rfl; have b := h1.mpr rfl; have c := h2.mpr rfl; omega
  | false =>
    have a : ¬ r = hi := fun x => nomatch h0.mp x
    have b' : ¬ g = hi := fun x => nomatch h1.mp x
    have c : ¬ b = hi := fun x => nomatch h2.mp x
    omega
theorem way_no2 {r g b lo hi : Int} {c0 c1 c2 : Bool} (hh : Hid (lo = min r (min g b) ∧ hi = max r (max g b))) (hne : lo ≠ hi) (h0 : lo < r ↔ c0 = true) (h1 : lo < g ↔ c1 = true) (h2 : lo < b ↔ c2 = true) (e1 : c0 = c1) (e2 : c1 = c2) : False := by
  obtain ⟨⟨e, e'⟩⟩ := hh
  subst e1 e2
  cases c0 with
  | true => have a := h0.mpr rfl; have b := h1.mpr rfl; have c := h2.mpr rfl; omega
  | false =>
    have a : ¬ lo < r := fun x => nomatch h0.mp x
    have b' : ¬ lo < g := fun x => nomatch h1.mp x
    have c : ¬ lo < b := fun x => nomatch h2.mp x
    omega
theorem join_end {h₀ h' : Heap} {L : Addr} {m : Str → Option Value} {news all : List (Addr × Obj)} {x : Str} {val k : Int} {s : Shared} {t : Tok} {tk' : Nat} (F : Fr h₀ L h' (fun y => if y = x then some (.int k t) else m y)) (N : News h₀ L h' all) (sub : ∀ p ∈ news, p ∈ all) (e : val = k) : JoinA h₀ L m news x val s .next { s with heap := h', toks := tk' } := by
  subst e
  exact ⟨rfl, t, h', tk', rfl, F, fun p hp => N p (sub p hp)⟩
theorem way_ret {h h' : Heap} {L D : Addr} {r g b x y z : Int} {t1 t2 t3 : Tok} {c : Nat} {news : List (Addr × Obj)} (N : News h L h' news) (mD : (D, W.listOf #[.int x t1, .int y t2, .int z t3] c) ∈ news) (e : wayF r g b = (x, y, z)) :
    ∃ D', Value.ref D = .ref D' ∧ h.get? D' = none ∧ ∃ o, h'.get? D' = some o ∧ ∃ t1 t2 t3 c, o = W.listOf #[.int (wayF r g b).1 t1, .int (wayF r g b).2.1 t2, .int (wayF r g b).2.2 t3] c := by
  rw [e]
  exact ⟨D, rfl, (N _ mD).2.2, _, N.get mD, t1, t2, t3, c, rfl⟩
theorem d_way {w : World} {D : Addr} {r g b : Int} {t1 t2 t3 t4 t5 : Tok} {cc : Nat} {s : Shared} {lo hi : Int} (hD : s.heap.get? D = some (W.listOf #[.int r t1, .int g t2, .int b t3] cc)) (hh : Hid (lo = min r (min g b) ∧ hi = max r (max g b))) :
    Does w 3 117 [.ref D, .int lo t4, .int hi t5] s (fun v h => ∃ D', v = .ref D' ∧ s.heap.get? D' = none ∧ ∃ o, h.get? D' = some o ∧ ∃ t1 t2 t3 c, o = W.listOf #[.int (wayF r g b).1 t1, .int (wayF r g b).2.1 t2, .int (wayF r g b).2.2 t3] c) := by
  intro p loose mean mg mb dp un gd cn cs fa ccd cl outer A₀ base h₀ L m Q E B F X T hk hd hu hret
  refine wpAny_call ?_
  k_dflt ((refine' enterC ?k1 ?k2 ?k3 ?k4 ?k5 ?kA ?kF ?kK ?k6 ?k7 ?k8 ?k9 ?kB ?kC ?_ ?c2 ?c3 ?c4; (case kA => exact rfl); (case kF => exact rfl); (case kK => assumption); (case k1 => k_asm); (case k2 => k_asm); (case k3 => k_asm); (case k4 => exact News.nil); (case k5 => k_asm); (case k6 => k_is); (case k7 => k_is); (case k8 => ktr_room); (case k9 => exact BindsTo.of_eq rfl); (case kB => exact rfl); (case kC => decide); (case c2 => exact rfl); (case c3 => exact rfl); (case c4 => exact rfl); k_whole))
  intro g' L' h' tk' cells' hg' F' N' Y' B' X' T' l0'
  have hg2 : g' = s.heap := hg'
  rw [← hg2] at hD
  have hL : g'.IsList D [Value.int r t1, .int g t2, .int b t3].toArray := ⟨_, hD, rfl, cc, rfl⟩
  have hI : IntsAre [Value.int r t1, .int g t2, .int b t3] [r, g, b] := .cons _ _ (.cons _ _ (.cons _ _ .nil))
  have mk1 : Mark (Str.ofString "lead") (leadI r g b) := .mk
  have mk2 : Mark (Str.ofString "both") (bothI r g b) := .mk
  k_cells Y'
  (try simp only [List.cons_append, List.nil_append, List.append_nil] at N')
  (try dsimp only)
  (try k_fold)
  (repeat' (first | (k_unfold; (try dsimp only)) | (k_end; kc_close) | (first | ((with_reducible show wpAny _ _ (eval (PySem.Expr.Name _ _) _) _ _ _); k_dflt (refine' nameX_L ?F ?v ?_ ?a ?b (by decide); (case F => k_asm); (case v => exact Eq.refl (some _)); (case a => exact Eq.refl ScopeKind.function); (case b => exact Eq.refl (some NameKind.local)); k_whole)) | ((with_reducible show wpAny _ _ (eval (PySem.Expr.BinOp (PySem.Expr.Name _ _) _ (PySem.Expr.Name _ _) _) _) _ _ _); k_dflt (refine' bin_nn ?F ?v ?v2 ?_ ?a ?b ?b2 (by decide) (by decide); (case F => k_asm); (case v => exact Eq.refl (some _)); (case a => exact Eq.refl ScopeKind.function); (case b => exact Eq.refl (some NameKind.local)); (case v2 => exact Eq.refl (some _)); (case b2 => exact Eq.refl (some NameKind.local)); k_whole)) | ((with_reducible show wpAny _ _ (eval (PySem.Expr.BinOp (PySem.Expr.Name _ _) _ _ _) _) _ _ _); k_dflt (refine' bin_n ?F ?v ?_ ?a ?b (by decide); (case F => k_asm); (case v => exact Eq.refl (some _)); (case a => exact Eq.refl ScopeKind.function); (case b => exact Eq.refl (some NameKind.local)); k_whole)) | ((with_reducible show wpAny _ _ (storeName _ _ _) _ _ _); k_dflt (refine' st_tk ?F ?N ?_ ?a ?b; (case F => k_asm); (case N => k_asm); (case a => exact Eq.refl ScopeKind.function); (case b => exact Eq.refl (some NameKind.local)); k_whole); intro h_z tk_z F_z N_z; (try k_sweep)) | ((with_reducible show wpAny _ _ (spliced (backTo _ (starEach (PySem.Expr.Name _ _ :: _) _))) _ _ _); k_dflt (refine' sp_n ?F ?v ?_ ?a ?b (by decide); (case F => k_asm); (case v => exact Eq.refl (some _)); (case a => exact Eq.refl ScopeKind.function); (case b => exact Eq.refl (some NameKind.local)); k_whole)) | ((with_reducible show wpAny _ _ (spliced (backTo _ (starEach (PySem.Expr.Constant (PySem.Const.int _) _ _ :: _) _))) _ _ _); k_dflt (refine' sp_c ?_; k_whole)) | ((with_reducible show wpAny _ _ (exec (Stmt.Assign _ _ _) _) _ _ _); (fail_if_success (with_reducible show wpAny _ _ _ (JoinA _ _ _ _ _ _ _) _ _)); k_dflt (refine' join_assign (x := Str.ofString "both") ?mk ?F ?N ?_ ?_; (case mk => assumption); (case F => k_asm); (case N => k_asm))) | ((with_reducible show wpAny _ _ (exec (Stmt.Assign _ _ _) _) _ _ _); (fail_if_success (with_reducible show wpAny _ _ _ (JoinA _ _ _ _ _ _ _) _ _)); k_dflt (refine' join_assign (x := Str.ofString "lead") ?mk ?F ?N ?_ ?_; (case mk => assumption); (case F => k_asm); (case N => k_asm))) | ((with_reducible show wpAny _ _ (subscriptTail _ _ (Value.ref _) (Value.int _ _)) _ _ _); (with_unfolding_all refine' item_led ?k1 ?k2 ?k3 ?k4 ?k5 ?_ ?k6; (case k1 => k_asm); (case k2 => k_mem); (case k3 => decide); (case k4 => decide); (case k5 => rfl); (case k6 => with_unfolding_all rfl); k_whole)) | walk1) | (dsimp only; (first | ((with_reducible show wpAny _ _ (eval (PySem.Expr.Name _ _) _) _ _ _); k_dflt (refine' nameX_L ?F ?v ?_ ?a ?b (by decide); (case F => k_asm); (case v => exact Eq.refl (some _)); (case a => exact Eq.refl ScopeKind.function); (case b => exact Eq.refl (some NameKind.local)); k_whole)) | ((with_reducible show wpAny _ _ (eval (PySem.Expr.BinOp (PySem.Expr.Name _ _) _ (PySem.Expr.Name _ _) _) _) _ _ _); k_dflt (refine' bin_nn ?F ?v ?v2 ?_ ?a ?b ?b2 (by decide) (by decide); (case F => k_asm); (case v => exact Eq.refl (some _)); (case a => exact Eq.refl ScopeKind.function); (case b => exact Eq.refl (some NameKind.local)); (case v2 => exact Eq.refl (some _)); (case b2 => exact Eq.refl (some NameKind.local)); k_whole)) | ((with_reducible show wpAny _ _ (eval (PySem.Expr.BinOp (PySem.Expr.Name _ _) _ _ _) _) _ _ _); k_dflt (refine' bin_n ?F ?v ?_ ?a ?b (by decide); (case F => k_asm); (case v => exact Eq.refl (some _)); (case a => exact Eq.refl ScopeKind.function); (case b => exact Eq.refl (some NameKind.local)); k_whole)) | ((with_reducible show wpAny _ _ (storeName _ _ _) _ _ _); k_dflt (refine' st_tk ?F ?N ?_ ?a ?b; (case F => k_asm); (case N => k_asm); (case a => exact Eq.refl ScopeKind.function); (case b => exact Eq.refl (some NameKind.local)); k_whole); intro h_z tk_z F_z N_z; (try k_sweep)) | ((with_reducible show wpAny _ _ (spliced (backTo _ (starEach (PySem.Expr.Name _ _ :: _) _))) _ _ _); k_dflt (refine' sp_n ?F ?v ?_ ?a ?b (by decide); (case F => k_asm); (case v => exact Eq.refl (some _)); (case a => exact Eq.refl ScopeKind.function); (case b => exact Eq.refl (some NameKind.local)); k_whole)) | ((with_reducible show wpAny _ _ (spliced (backTo _ (starEach (PySem.Expr.Constant (PySem.Const.int _) _ _ :: _) _))) _ _ _); k_dflt (refine' sp_c ?_; k_whole)) | ((with_reducible show wpAny _ _ (exec (Stmt.Assign _ _ _) _) _ _ _); (fail_if_success (with_reducible show wpAny _ _ _ (JoinA _ _ _ _ _ _ _) _ _)); k_dflt (refine' join_assign (x := Str.ofString "both") ?mk ?F ?N ?_ ?_; (case mk => assumption); (case F => k_asm); (case N => k_asm))) | ((with_reducible show wpAny _ _ (exec (Stmt.Assign _ _ _) _) _ _ _); (fail_if_success (with_reducible show wpAny _ _ _ (JoinA _ _ _ _ _ _ _) _ _)); k_dflt (refine' join_assign (x := Str.ofString "lead") ?mk ?F ?N ?_ ?_; (case mk => assumption); (case F => k_asm); (case N => k_asm))) | ((with_reducible show wpAny _ _ (subscriptTail _ _ (Value.ref _) (Value.int _ _)) _ _ _); (with_unfolding_all refine' item_led ?k1 ?k2 ?k3 ?k4 ?k5 ?_ ?k6; (case k1 => k_asm); (case k2 => k_mem); (case k3 => decide); (case k4 => decide); (case k5 => rfl); (case k6 => with_unfolding_all rfl); k_whole)) | walk1)) | (leave1; walk_say "STEP leave1"; (try dsimp only)) | fail "no step"))
  all_goals first
    | (exfalso; exact way_no hh (by assumption) (by first | exact pickT (by assumption) | exact pickF (by assumption) | exact pickL (by assumption)) (by first | exact pickT (by assumption) | exact pickF (by assumption) | exact pickL (by assumption)) (by first | exact pickT (by assumption) | exact pickF (by assumption) | exact pickL (by assumption)) rfl rfl)
    | (exfalso; exact way_no2 hh (by assumption) (by first | exact pickT (by assumption) | exact pickF (by assumption) | exact pickL (by assumption)) (by first | exact pickT (by assumption) | exact pickF (by assumption) | exact pickL (by assumption)) (by first | exact pickT (by assumption) | exact pickF (by assumption) | exact pickL (by assumption)) rfl rfl)
    | ((rename News _ _ _ _ => N9); (rename Fr _ _ _ _ => F9); refine join_end F9 N9 (by (repeat' (first | exact List.forall_mem_nil _ | refine List.forall_mem_cons.mpr ⟨by k_mem, ?_⟩))) ?_; first | exact lead_eq hh (by first | exact pickT (by assumption) | exact pickF (by assumption) | exact pickL (by assumption)) (by first | exact pickT (by assumption) | exact pickF (by assumption) | exact pickL (by assumption)) (by first | exact pickT (by assumption) | exact pickF (by assumption) | exact pickL (by assumption)) | exact both_eq hh (by first | exact pickT (by assumption) | exact pickF (by assumption) | exact pickL (by assumption)) (by first | exact pickT (by assumption) | exact pickF (by assumption) | exact pickL (by assumption)) (by first | exact pickT (by assumption) | exact pickF (by assumption) | exact pickL (by assumption)))
    | ((rename News _ _ _ _ => N9); (rename Fr _ _ _ _ => F9); rw [hg2] at N9 F9; refine hret _ _ _ F9.keep (way_ret N9 (by k_mem) ?_); obtain ⟨⟨e1, e2⟩⟩ := hh; subst e1 e2; simp only [wayF, *, if_true, if_false]; done)
    | ((rename News _ _ _ _ => N9); (rename Fr _ _ _ _ => F9); rw [hg2] at N9 F9; refine hret _ _ _ F9.keep (way_ret N9 (by k_mem) ?_); obtain ⟨⟨e1, e2⟩⟩ := hh; subst e1 e2; unfold wayF; rw [if_neg (show ¬ (min r (min g b) = max r (max g b)) from by assumption), if_neg (show ¬ (leadI r g b = bothI r g b) from by assumption)]; (first | rw [if_pos (show (leadI r g b + 1).fmod 6 = bothI r g b from by assumption)] | rw [if_neg (show ¬ ((leadI r g b + 1).fmod 6 = bothI r g b) from by assumption)]); (refine Prod.ext rfl (Prod.ext ?_ rfl)); dsimp only; omega)
    | skip
end Mine
end

section
open PySem PySem.W PySem.Calls PySem.Spec PyProof.Rows
set_option maxRecDepth 100000
set_option maxHeartbeats 8000000
namespace Mine
structure Min3 (a b c y : Int) : Prop where
  out : min a (min b c) = y
structure Max3 (a b c y : Int) : Prop where
  out : max a (max b c) = y
structure Min2 (a b y : Int) : Prop where
  out : min a b = y
structure Max2 (a b y : Int) : Prop where
  out : max a b = y
noncomputable def f64 (R : Int) : UInt64 := Float64.ofFrac false R.toNat 64
section
variable {prog : Program} {w : World} {A : Around} {E : Value → Shared → Prop} {s : Shared} {h₀ : Heap} {L : Addr} {m : Str → Option Value} {news : List (Addr × Obj)} {Q : Value → Shared → Prop}
theorem min3_led {l : Addr} {a b c y : Int} {t1 t2 t3 : Tok} {n : Nat} (F : Fr h₀ L s.heap m) (N : News h₀ L s.heap news) (hm : (l, W.listOf #[.int a t1, .int b t2, .int c t3] n) ∈ news) (hh : A.handled = none) (hy : Min3 a b c y)
    (h : ∀ h' t tk, Fr h₀ L h' m → News h₀ L h' news → Q (.int y t) { s with heap := h', toks := tk }) : wpAny (model prog w) A (call (.builtin "min") [.ref l]) Q E s := by
  refine kso_min (vs := [.int a t1, .int b t2, .int c t3]) (ns := [a, b, c]) F N (kso_isList N hm rfl) (.cons _ _ (.cons _ _ (.cons _ _ .nil))) (by simp) hh fun h' M t tk F' N' h1 h2 => ?_
  have e : M = y := by
    rw [← hy.out]
    have e1 := h2 a (by simp)
    have e2 := h2 b (by simp)
    have e3 := h2 c (by simp)
    simp only [List.mem_cons, List.not_mem_nil, or_false] at h1
    omega
  subst e
  exact h h' t tk F' N'
theorem max3_led {l : Addr} {a b c y : Int} {t1 t2 t3 : Tok} {n : Nat} (F : Fr h₀ L s.heap m) (N : News h₀ L s.heap news) (hm : (l, W.listOf #[.int a t1, .int b t2, .int c t3] n) ∈ news) (hh : A.handled = none) (hy : Max3 a b c y)
    (h : ∀ h' t tk, Fr h₀ L h' m → News h₀ L h' news → Q (.int y t) { s with heap := h', toks := tk }) : wpAny (model prog w) A (call (.builtin "max") [.ref l]) Q E s := by
  refine kso_max (vs := [.int a t1, .int b t2, .int c t3]) (ns := [a, b, c]) F N (kso_isList N hm rfl) (.cons _ _ (.cons _ _ (.cons _ _ .nil))) (by simp) hh fun h' M t tk F' N' h1 h2 => ?_
  have e : M = y := by
    rw [← hy.out]
    have e1 := h2 a (by simp)
    have e2 := h2 b (by simp)
    have e3 := h2 c (by simp)
    simp only [List.mem_cons, List.not_mem_nil, or_false] at h1
    omega
  subst e
  exact h h' t tk F' N'
theorem min2_to {a b y : Int} {t u : Tok} (F : Fr h₀ L s.heap m) (N : News h₀ L s.heap news) (hh : A.handled = none) (hy : Min2 a b y)
    (h : ∀ h' t tk, Fr h₀ L h' m → News h₀ L h' news → Q (.int y t) { s with heap := h', toks := tk }) : wpAny (model prog w) A (call (.builtin "min") [.int a t, .int b u]) Q E s := by
  refine min_two_ints hh fun h' tk kp => ?_
  have hv := hy.out
  by_cases c : b < a
  · rw [if_pos c]
    have e : b = y := by omega
    subst e
    exact h h' u tk (F.grownK kp) (N.grown kp)
  · rw [if_neg c]
    have e : a = y := by omega
    subst e
    exact h h' t tk (F.grownK kp) (N.grown kp)
theorem max2_to {a b y : Int} {t u : Tok} (F : Fr h₀ L s.heap m) (N : News h₀ L s.heap news) (hh : A.handled = none) (hy : Max2 a b y)
    (h : ∀ h' t tk, Fr h₀ L h' m → News h₀ L h' news → Q (.int y t) { s with heap := h', toks := tk }) : wpAny (model prog w) A (call (.builtin "max") [.int a t, .int b u]) Q E s := by
  refine max_two_ints hh fun h' tk kp => ?_
  have hv := hy.out
  by_cases c : b > a
  · rw [if_pos c]
    have e : b = y := by omega
    subst e
    exact h h' u tk (F.grownK kp) (N.grown kp)
  · rw [if_neg c]
    have e : a = y := by omega
    subst e
    exact h h' t tk (F.grownK kp) (N.grown kp)
theorem div64_to {R : Int} {t u : Tok} (hh : A.handled = none) (h0 : 0 ≤ R) (h1 : R ≤ 64) (h : ∀ t tk, Q (.float (f64 R) t) { s with toks := tk }) : wpAny (model prog w) A (binaryOp .Div (.int R t) (.int 64 u)) Q E s := by
  refine PySem.Flt.div_ii_fits hh (Nat.lt_of_le_of_lt (show R.natAbs ≤ 64 by omega) (by decide +kernel)) (fun e => absurd e (by decide)) fun _ _ => ?_
  have e : Float64.ofFrac (decide (R < 0) != decide ((64 : Int) < 0)) R.natAbs (64 : Int).natAbs = f64 R := by
    unfold f64
    have e1 : decide (R < 0) = false := decide_eq_false (by omega)
    have e2 : R.natAbs = R.toNat := by omega
    rw [e1, e2]; rfl
  rw [e]; exact h _ _
end
theorem quoF_len : ∀ (f : Nat) (u d : Int), (quoF f u d).length ≤ f
  | 0, _, _ => Nat.le_refl _
  | f + 1, u, d => by
    unfold quoF
    split
    · exact Nat.zero_le _
    · rw [List.length_cons]
      have := quoF_len f d (u.fmod d)
      omega
theorem quoRow_len {u d : Int} (hd : d < 1000) : (quoRow u d).length ≤ 1010 := by
  unfold quoRow
  have := quoF_len (d.toNat + 1) u d
  simp only [List.length_append, List.length_replicate]
  omega
theorem quoRow_size {vs : Array Value} {u d : Int} (h : IntsAre vs.toList (quoRow u d)) (hd : d < 1000) : vs.size ≤ 1010 := by
  have := h.length
  rw [Array.length_toList] at this
  rw [this]; exact quoRow_len hd
end Mine
end

section
open PySem PySem.W PySem.Calls PySem.Spec PyProof.Rows
set_option maxRecDepth 100000
namespace Mine
/-- n 64ths -/
noncomputable def fN (n : Nat) : UInt64 := Float64.ofFrac false n 64
theorem f64_fN {R : Int} : f64 R = fN R.toNat := rfl
theorem V_inj {t u : Nat} (h : Float64.V t = Float64.V u) : t = u := by
  rcases Nat.lt_trichotomy t u with q | q | q
  · exact absurd h (Nat.ne_of_lt (Float64.V_lt q))
  · exact q
  · exact absurd h.symm (Nat.ne_of_lt (Float64.V_lt q))
theorem right_scale {r : UInt64} {s : Bool} {W D W' D' : Nat} (h : Float64.Right r s W D) (hD : 0 < D) (hD' : 0 < D') (e : W * D' = W' * D) : Float64.Right r s W' D' := by
  obtain ⟨t, hr, h1, h2, h3⟩ := h
  have k : ∀ v, D' * Float64.dist W (D * v) = D * Float64.dist W' (D' * v) := fun v => by
    rw [← Float64.dist_mul, ← Float64.dist_mul, Nat.mul_comm D' W, e, Nat.mul_comm W' D, ← Nat.mul_assoc, ← Nat.mul_assoc, Nat.mul_comm D' D]
  refine ⟨t, hr, h1, h2.trans ?_, fun q u => ⟨?_, fun a b => (h3 q u).2 a (Nat.eq_of_mul_eq_mul_left hD' ?_)⟩⟩
  · generalize (2 ^ 54 - 1) * 2 ^ 2045 = B
    have x : D' * (2 * W) = D * (2 * W') := by rw [Nat.mul_left_comm, Nat.mul_comm D', e, Nat.mul_comm W', Nat.mul_left_comm]
    exact ⟨fun i => Nat.le_of_mul_le_mul_left (by rw [← x, Nat.mul_left_comm]; exact Nat.mul_le_mul_left D' i) hD, fun i => Nat.le_of_mul_le_mul_left (by rw [x, Nat.mul_left_comm]; exact Nat.mul_le_mul_left D i) hD'⟩
  · exact Nat.le_of_mul_le_mul_left (by rw [← k, ← k]; exact Nat.mul_le_mul_left _ (h3 q u).1) hD
  · rw [k, k, b]
theorem odd_next {t : Nat} (a : t % 2 = 0) (b : (t + 1) % 2 = 0) : False := by
  rw [Nat.add_mod, a] at b
  exact absurd b (by decide)
theorem far {W D x y : Nat} (hD : 0 < D) (l : x + 1 < y) (e : Float64.dist W (D * Float64.V x) = Float64.dist W (D * Float64.V y)) (i : Float64.dist W (D * Float64.V x) ≤ Float64.dist W (D * Float64.V (x + 1))) : False := by
  have c1 := Nat.mul_lt_mul_of_pos_left (Float64.V_succ x) hD
  have c2 := Nat.mul_lt_mul_of_pos_left (Float64.V_lt l) hD
  rcases Nat.le_total W (D * Float64.V (x + 1)) with z | z
  · rw [e] at i
    unfold Float64.dist at i
    rw [Nat.sub_eq_zero_of_le z, Nat.sub_eq_zero_of_le (Nat.le_trans z (Nat.le_of_lt c2)), Nat.zero_add, Nat.zero_add] at i
    exact absurd (Nat.sub_lt_sub_right z c2) (Nat.not_lt.mpr i)
  · unfold Float64.dist at i
    rw [Nat.sub_eq_zero_of_le z, Nat.sub_eq_zero_of_le (Nat.le_trans (Nat.le_of_lt c1) z)] at i
    exact absurd (Nat.sub_lt_sub_left (Nat.lt_of_lt_of_le c1 z) c1) (Nat.not_lt.mpr i)
theorem right_unique {r r' : UInt64} {s : Bool} {W D : Nat} (h : Float64.Right r s W D) (h' : Float64.Right r' s W D) (hD : 0 < D) : r = r' := by
  obtain ⟨t, rfl, h1, h2, h3⟩ := h
  obtain ⟨u, rfl, g1, g2, g3⟩ := h'
  congr 1
  rcases Nat.lt_or_ge t Float64.infMag with q | q
  · have q' : u < Float64.infMag := by
      rcases Nat.lt_or_ge u Float64.infMag with q' | q'
      · exact q'
      · exact absurd (h2.mpr (g2.mp (Nat.le_antisymm g1 q'))) (Nat.ne_of_lt q)
    have a := (h3 q u).1
    have b := (g3 q' t).1
    have e := Nat.le_antisymm a b
    refine V_inj (Decidable.byContradiction fun n => ?_)
    have p1 := (h3 q u).2 (fun x => n x.symm) e
    have p2 := (g3 q' t).2 n e.symm
    have ne : t ≠ u := fun x => n (by rw [x])
    rcases Nat.lt_or_ge t u with l | l
    · exact far hD (Nat.lt_of_le_of_ne l fun z => by rw [← z] at p2; exact odd_next p1 p2) e (h3 q (t + 1)).1
    · exact far hD (Nat.lt_of_le_of_ne (Nat.lt_of_le_of_ne l ne.symm) fun z => by rw [← z] at p1; exact odd_next p2 p1) e.symm (g3 q' (u + 1)).1
  · have x := Nat.le_antisymm h1 q
    rw [x, g2.mpr (h2.mp x)]
theorem fN_right (n : Nat) : Float64.Right (fN n) false (n * 2 ^ 1068) 1 := Float64.ofFrac_right (by decide) (by rw [show (2 : Nat) ^ 1074 = 2 ^ 1068 * 64 by decide +kernel]; ac_rfl) (by decide)
theorem right_fN {r : UInt64} {n : Nat} (h : Float64.Right r false (n * 2 ^ 1068) 1) : r = fN n := right_unique h (fN_right n) (by decide)
theorem pk : ∀ n, n < 129 → Float64.roundMag n 64 < Float64.infMag ∧ Float64.V (Float64.roundMag n 64) = n * 2 ^ 1068 := by decide +kernel
theorem fin_fN {n : Nat} (h : n < 129) : ∃ m e, Float64.decode (fN n) = .fin false m e ∧ Float64.val (fN n) = ((n * 2 ^ 1068 : Nat) : Int) := by
  obtain ⟨p, v⟩ := pk n h
  unfold fN Float64.ofFrac
  obtain ⟨m, e, d, _⟩ := Float64.decode_pack false p
  exact ⟨m, e, d, (Float64.val_pack false p).trans (by rw [v]; rfl)⟩
theorem t_cmp (a : Nat) (ha : a < 65) (b : Nat) (hb : b < 65) : Float64.cmp (fN a) (fN b) = some (compare a b) := by
  obtain ⟨_, _, d, v⟩ := fin_fN (n := a) (by omega)
  obtain ⟨_, _, d', v'⟩ := fin_fN (n := b) (by omega)
  rw [Float64.cmp_right d d', v, v']
  congr 1
  have hp : 0 < (2 : Nat) ^ 1068 := Nat.two_pow_pos _
  generalize (2 : Nat) ^ 1068 = P at *
  rcases Nat.lt_trichotomy a b with q | q | q
  · rw [Nat.compare_eq_lt.mpr q, Int.compare_eq_lt.mpr (Int.ofNat_lt.mpr (Nat.mul_lt_mul_of_pos_right q hp))]
  · rw [q, Nat.compare_eq_eq.mpr rfl, Int.compare_eq_eq.mpr rfl]
  · rw [Nat.compare_eq_gt.mpr q, Int.compare_eq_gt.mpr (Int.ofNat_lt.mpr (Nat.mul_lt_mul_of_pos_right q hp))]
theorem t_zero : ∀ a, a < 129 → Float64.isZero (fN a) = (a == 0) := by decide +kernel
theorem t_sub' (a : Nat) (ha : a < 129) (b : Nat) (hb : b < a + 1) : Float64.sub (fN a) (fN b) = fN (a - b) := by
  obtain ⟨_, _, d, v⟩ := fin_fN (n := a) ha
  obtain ⟨_, _, d', v'⟩ := fin_fN (n := b) (by omega)
  have hp : 0 < (2 : Nat) ^ 1068 := Nat.two_pow_pos _
  obtain ⟨h1, h2⟩ := Float64.sub_right d d'
  obtain ⟨c, rfl⟩ := Nat.exists_eq_add_of_le (Nat.le_of_lt_succ hb)
  have e : Float64.val (fN (b + c)) - Float64.val (fN b) = ((c * 2 ^ 1068 : Nat) : Int) := by
    rw [v, v', Nat.add_mul]; exact Int.sub_eq_iff_eq_add'.mpr (Int.natCast_add _ _)
  rw [e] at h1 h2
  rw [Nat.add_sub_cancel_left]
  rcases Nat.eq_zero_or_pos c with z | z
  · subst z
    exact (h1 (by simp)).trans (by decide +kernel)
  · have q := h2 (Int.natCast_ne_zero.mpr (Nat.ne_of_gt (Nat.mul_pos z hp)))
    rw [decide_eq_false (Int.not_lt.mpr (Int.natCast_nonneg _)), Int.natAbs_natCast] at q
    exact right_fN q
theorem t_sub (a : Nat) (ha : a < 65) (b : Nat) (hb : b < a + 1) : Float64.sub (fN a) (fN b) = fN (a - b) := t_sub' a (Nat.lt_trans ha (by decide)) b hb
theorem t_add (a : Nat) (ha : a < 65) (b : Nat) (hb : b < a + 1) : Float64.add (fN a) (fN b) = fN (a + b) := by
  obtain ⟨_, _, d, v⟩ := fin_fN (n := a) (by omega)
  obtain ⟨_, _, d', v'⟩ := fin_fN (n := b) (by omega)
  have hp : 0 < (2 : Nat) ^ 1068 := Nat.two_pow_pos _
  obtain ⟨h1, h2⟩ := Float64.add_right d d'
  have e : Float64.val (fN a) + Float64.val (fN b) = (((a + b) * 2 ^ 1068 : Nat) : Int) := by
    rw [v, v', Nat.add_mul, Int.natCast_add]
  rw [e] at h1 h2
  rcases Nat.eq_zero_or_pos (a + b) with z | z
  · rw [z]
    exact (h1 (by rw [z]; simp)).trans (by decide +kernel)
  · have q := h2 (Int.natCast_ne_zero.mpr (Nat.ne_of_gt (Nat.mul_pos z hp)))
    rw [decide_eq_false (Int.not_lt.mpr (Int.natCast_nonneg _)), Int.natAbs_natCast] at q
    exact right_fN q
theorem t_two (a : Nat) (ha : a < 65) (b : Nat) (hb : b < a + 1) : Float64.sub (Float64.sub 4611686018427387904 (fN a)) (fN b) = fN (128 - a - b) := by
  rw [show (4611686018427387904 : UInt64) = fN 128 by decide +kernel, t_sub' 128 (by decide) a (Nat.lt_trans ha (by decide)), t_sub' _ (Nat.lt_succ_of_le (Nat.sub_le _ _)) b (Nat.lt_succ_of_le (Nat.le_sub_of_add_le (Nat.add_le_add (Nat.le_trans (Nat.le_of_lt_succ hb) (Nat.le_of_lt_succ ha)) (Nat.le_of_lt_succ ha))))]
theorem t_low : ∀ n, n < 129 → (Float64.cmp (Float64.div (fN n) 4611686018427387904) 4602678819172646912 == some Ordering.lt || Float64.cmp (Float64.div (fN n) 4611686018427387904) 4602678819172646912 == some Ordering.eq) = decide (n ≤ 64) := by decide +kernel
theorem fmax_N {a b c : Nat} (ha : a < 65) (hb : b < 65) (hc : c < 65) : fmax3 (fN a) (fN b) (fN c) = fN (max a (max b c)) := by
  unfold fmax3
  rw [t_cmp a ha b hb, t_cmp b hb c hc, t_cmp a ha c hc]
  have key : ∀ x y : Nat, ((some (compare x y) == some Ordering.lt) = true) = (x < y) := fun x y => by
    simp only [beq_iff_eq, Option.some.injEq, eq_iff_iff]
    exact Nat.compare_eq_lt
  simp only [key]
  clear ha hb hc key
  split
  · rename_i h1; split
    · rename_i h2; rw [Nat.max_eq_right (Nat.le_of_lt h2), Nat.max_eq_right (Nat.le_of_lt (Nat.lt_trans h1 h2))]
    · rename_i h2; rw [Nat.max_eq_left (Nat.not_lt.mp h2), Nat.max_eq_right (Nat.le_of_lt h1)]
  · rename_i h1; split
    · rename_i h2; rw [Nat.max_eq_right (Nat.le_trans (Nat.not_lt.mp h1) (Nat.le_of_lt h2)), Nat.max_eq_right (Nat.le_of_lt h2)]
    · rename_i h2; rw [Nat.max_eq_left (Nat.max_le.mpr ⟨Nat.not_lt.mp h1, Nat.not_lt.mp h2⟩)]
theorem fmin_N {a b c : Nat} (ha : a < 65) (hb : b < 65) (hc : c < 65) : fmin3 (fN a) (fN b) (fN c) = fN (min a (min b c)) := by
  unfold fmin3
  rw [t_cmp b hb a ha, t_cmp c hc b hb, t_cmp c hc a ha]
  have key : ∀ x y : Nat, ((some (compare x y) == some Ordering.lt) = true) = (x < y) := fun x y => by
    simp only [beq_iff_eq, Option.some.injEq, eq_iff_iff]
    exact Nat.compare_eq_lt
  simp only [key]
  clear ha hb hc key
  split
  · rename_i h1; split
    · rename_i h2; rw [Nat.min_eq_right (Nat.le_of_lt h2), Nat.min_eq_right (Nat.le_of_lt (Nat.lt_trans h2 h1))]
    · rename_i h2; rw [Nat.min_eq_left (Nat.not_lt.mp h2), Nat.min_eq_right (Nat.le_of_lt h1)]
  · rename_i h1; split
    · rename_i h2; rw [Nat.min_eq_right (Nat.le_trans (Nat.le_of_lt h2) (Nat.not_lt.mp h1)), Nat.min_eq_right (Nat.le_of_lt h2)]
    · rename_i h2; rw [Nat.min_eq_left (Nat.le_min.mpr ⟨Nat.not_lt.mp h1, Nat.not_lt.mp h2⟩)]
theorem cmp_eq_N {a b : Nat} (ha : a < 65) (hb : b < 65) : (Float64.cmp (fN a) (fN b) == some Ordering.eq) = decide (a = b) := by
  rw [t_cmp a ha b hb]
  by_cases h : a = b
  · subst h
    rw [decide_eq_true rfl]
    have : compare a a = Ordering.eq := Nat.compare_eq_eq.mpr rfl
    rw [this]; rfl
  · rw [decide_eq_false h]
    have : compare a b ≠ Ordering.eq := fun e => h (Nat.compare_eq_eq.mp e)
    cases e : compare a b with
    | eq => exact absurd e this
    | lt => rfl
    | gt => rfl
theorem mm3 {a b c : Nat} (ha : a < 65) (hb : b < 65) (hc : c < 65) : max a (max b c) < 65 ∧ min a (min b c) ≤ max a (max b c) :=
  ⟨Nat.max_lt.mpr ⟨ha, Nat.max_lt.mpr ⟨hb, hc⟩⟩, Nat.le_trans (Nat.min_le_left _ _) (Nat.le_max_left _ _)⟩
theorem hsv_okN {a b c : Nat} (ha : a < 65) (hb : b < 65) (hc : c < 65) : (Float64.cmp (fmin3 (fN a) (fN b) (fN c)) (fmax3 (fN a) (fN b) (fN c)) == some Ordering.eq) = false → Float64.isZero (fmax3 (fN a) (fN b) (fN c)) = false ∧ Float64.isZero (Float64.sub (fmax3 (fN a) (fN b) (fN c)) (fmin3 (fN a) (fN b) (fN c))) = false := by
  obtain ⟨m1, m2⟩ := mm3 ha hb hc
  rw [fmax_N ha hb hc, fmin_N ha hb hc]
  clear ha hb hc
  generalize max a (max b c) = hi at *
  generalize min a (min b c) = lo at *
  have vh : hi < 129 := Nat.lt_trans m1 (by decide)
  have vl : lo < 65 := Nat.lt_of_le_of_lt m2 m1
  rw [cmp_eq_N vl m1, t_zero _ vh, t_sub _ m1 _ (Nat.lt_succ_of_le m2), t_zero _ (Nat.lt_of_le_of_lt (Nat.sub_le _ _) vh)]
  intro h
  have h := of_decide_eq_false h
  exact ⟨beq_false_of_ne (by omega), beq_false_of_ne (by omega)⟩
theorem hlsLow_N {a b c : Nat} (ha : a < 65) (hb : b < 65) (hc : c < 65) : hlsLow (fN a) (fN b) (fN c) = decide (max a (max b c) + min a (min b c) ≤ 64) := by
  unfold hlsLow
  obtain ⟨m1, m2⟩ := mm3 ha hb hc
  rw [fmax_N ha hb hc, fmin_N ha hb hc]
  clear ha hb hc
  generalize max a (max b c) = hi at *
  generalize min a (min b c) = lo at *
  have vh : hi < 129 := Nat.lt_trans m1 (by decide)
  have vl : lo < 65 := Nat.lt_of_le_of_lt m2 m1
  rw [t_add _ m1 _ (Nat.lt_succ_of_le m2), t_low _ (Nat.lt_succ_of_le (Nat.add_le_add (Nat.le_of_lt_succ m1) (Nat.le_of_lt_succ vl)))]
theorem hls_okN {a b c : Nat} (ha : a < 65) (hb : b < 65) (hc : c < 65) : (Float64.cmp (fmin3 (fN a) (fN b) (fN c)) (fmax3 (fN a) (fN b) (fN c)) == some Ordering.eq) = false → Float64.isZero (Float64.sub (fmax3 (fN a) (fN b) (fN c)) (fmin3 (fN a) (fN b) (fN c))) = false ∧ (hlsLow (fN a) (fN b) (fN c) = true → Float64.isZero (Float64.add (fmax3 (fN a) (fN b) (fN c)) (fmin3 (fN a) (fN b) (fN c))) = false) ∧
      (hlsLow (fN a) (fN b) (fN c) = false → Float64.isZero (Float64.sub (Float64.sub 4611686018427387904 (fmax3 (fN a) (fN b) (fN c))) (fmin3 (fN a) (fN b) (fN c))) = false) := by
  obtain ⟨m1, m2⟩ := mm3 ha hb hc
  rw [hlsLow_N ha hb hc, fmax_N ha hb hc, fmin_N ha hb hc]
  clear ha hb hc
  generalize max a (max b c) = hi at *
  generalize min a (min b c) = lo at *
  have vh : hi < 129 := Nat.lt_trans m1 (by decide)
  have vl : lo < 65 := Nat.lt_of_le_of_lt m2 m1
  rw [cmp_eq_N vl m1, t_sub _ m1 _ (Nat.lt_succ_of_le m2), t_add _ m1 _ (Nat.lt_succ_of_le m2), t_two _ m1 _ (Nat.lt_succ_of_le m2), t_zero _ (Nat.lt_of_le_of_lt (Nat.sub_le _ _) vh), t_zero _ (Nat.lt_succ_of_le (Nat.add_le_add (Nat.le_of_lt_succ m1) (Nat.le_of_lt_succ vl))), t_zero _ (Nat.lt_succ_of_le (Nat.le_trans (Nat.sub_le _ _) (Nat.sub_le _ _)))]
  intro h
  have h := of_decide_eq_false h
  refine ⟨beq_false_of_ne (by omega), fun _ => beq_false_of_ne (by omega), fun h2 => beq_false_of_ne ?_⟩
  have h2 := of_decide_eq_false h2
  omega
end Mine
end

section
open PySem PySem.W PySem.Calls PySem.Spec PyProof.Rows
set_option maxRecDepth 100000
set_option maxHeartbeats 8000000
namespace Mine
theorem c_col {w : World} {x R G Bl : Int} {t1 : Tok} {s : Shared} (hR : colR x = R) (hG : colG x = G) (hB : colB x = Bl) : Does w 1 112 [.int x t1] s (fun v h => ∃ D, v = .ref D ∧ s.heap.get? D = none ∧ ∃ o, h.get? D = some o ∧ ∃ t1 t2 t3 c, o = lstO #[.int R t1, .int G t2, .int Bl t3] c) := by
  subst hR hG hB
  exact d_col.mono fun _ _ ⟨D, e, f, t1, t2, t3, c, g⟩ => ⟨D, e, f, _, g, t1, t2, t3, c, rfl⟩
theorem c_hsv {w : World} {r g b : UInt64} {t1 t2 t3 : Tok} {s : Shared}
    (hz : (Float64.cmp (fmin3 r g b) (fmax3 r g b) == some Ordering.eq) = false → Float64.isZero (fmax3 r g b) = false ∧ Float64.isZero (Float64.sub (fmax3 r g b) (fmin3 r g b)) = false) :
    Does w 1 98 [.float r t1, .float g t2, .float b t3] s (fun v h => ∃ D, v = .ref D ∧ s.heap.get? D = none ∧ ∃ o, h.get? D = some o ∧ ∃ t1 t2 t3 c, o = tupO #[.float (hsvF r g b).1 t1, .float (hsvF r g b).2.1 t2, .float (hsvF r g b).2.2 t3] c) :=
  (d_hsv hz).mono fun _ _ ⟨D, e, f, t1, t2, t3, c, g⟩ => ⟨D, e, f, _, g, t1, t2, t3, c, rfl⟩
theorem c_hls {w : World} {r g b : UInt64} {t1 t2 t3 : Tok} {s : Shared}
    (hz : (Float64.cmp (fmin3 r g b) (fmax3 r g b) == some Ordering.eq) = false → Float64.isZero (Float64.sub (fmax3 r g b) (fmin3 r g b)) = false ∧ (hlsLow r g b = true → Float64.isZero (Float64.add (fmax3 r g b) (fmin3 r g b)) = false) ∧
      (hlsLow r g b = false → Float64.isZero (Float64.sub (Float64.sub 4611686018427387904 (fmax3 r g b)) (fmin3 r g b)) = false)) :
    Does w 1 91 [.float r t1, .float g t2, .float b t3] s (fun v h => ∃ D, v = .ref D ∧ s.heap.get? D = none ∧ ∃ o, h.get? D = some o ∧ ∃ t1 t2 t3 c, o = tupO #[.float (hlsF r g b).1 t1, .float (hlsF r g b).2.1 t2, .float (hlsF r g b).2.2 t3] c) :=
  (d_hls hz).mono fun _ _ ⟨D, e, f, t1, t2, t3, c, g⟩ => ⟨D, e, f, _, g, t1, t2, t3, c, rfl⟩
noncomputable def In64 (R G Bl : Int) : Prop := (0 ≤ R ∧ R ≤ 64) ∧ (0 ≤ G ∧ G ≤ 64) ∧ (0 ≤ Bl ∧ Bl ≤ 64)
theorem col_one {w t d : Int} (hw : 0 ≤ w ∧ w < 29) (ht : 0 ≤ t ∧ t < 4) (hd : 0 ≤ d ∧ d < 10) : 0 ≤ w + (t + 1) * d ∧ w + (t + 1) * d ≤ 64 := by
  have : t = 0 ∨ t = 1 ∨ t = 2 ∨ t = 3 := by omega (splitDisjunctions := true)
  rcases this with rfl | rfl | rfl | rfl <;> omega (splitDisjunctions := true)
theorem fm {x b : Int} (hb : 1 ≤ b) : 0 ≤ x.fmod b ∧ x.fmod b < b := fmod_bound hb
theorem col_bounds (x : Int) : In64 (colR x) (colG x) (colB x) :=
  ⟨col_one (fm (by decide)) (fm (by decide)) (fm (by decide)), col_one (fm (by decide)) (fm (by decide)) (fm (by decide)), col_one (fm (by decide)) (fm (by decide)) (fm (by decide))⟩
theorem sixthOf_bound (a b c : Bool) : 0 ≤ sixthOf a b c ∧ sixthOf a b c ≤ 5 := by cases a <;> cases b <;> cases c <;> decide
theorem max_one_of (x y : Int) : max x y = x ∨ max x y = y := by
  rw [Int.max_def]; split
  · exact .inr rfl
  · exact .inl rfl
theorem min_one_of (x y : Int) : min x y = x ∨ min x y = y := by
  rw [Int.min_def]; split
  · exact .inl rfl
  · exact .inr rfl
theorem max_of3 (x y z : Int) : max x (max y z) = x ∨ max x (max y z) = y ∨ max x (max y z) = z :=
  (max_one_of x (max y z)).elim .inl fun e => by rw [e]; exact .inr (max_one_of y z)
theorem min_of3 (x y z : Int) : min x (min y z) = x ∨ min x (min y z) = y ∨ min x (min y z) = z :=
  (min_one_of x (min y z)).elim .inl fun e => by rw [e]; exact .inr (min_one_of y z)
theorem mm64 {R G B : Int} (hb : In64 R G B) : 0 ≤ min R (min G B) ∧ min R (min G B) ≤ max R (max G B) ∧ max R (max G B) ≤ 64 :=
  ⟨Int.le_min.mpr ⟨hb.1.1, Int.le_min.mpr ⟨hb.2.1.1, hb.2.2.1⟩⟩, Int.le_trans (Int.min_le_left _ _) (Int.le_max_left _ _), Int.max_le.mpr ⟨hb.1.2, Int.max_le.mpr ⟨hb.2.1.2, hb.2.2.2⟩⟩⟩
theorem mid_lo {a b c m M : Int} (h : M = a ∨ M = b ∨ M = c) (ha : m ≤ a) (hb : m ≤ b) (hc : m ≤ c) : m ≤ a + b + c - m - M := by
  rcases h with rfl | rfl | rfl <;> omega (splitDisjunctions := true)
theorem mid_hi {a b c m M : Int} (h : m = a ∨ m = b ∨ m = c) (ha : a ≤ M) (hb : b ≤ M) (hc : c ≤ M) : a + b + c - m - M ≤ M := by
  rcases h with rfl | rfl | rfl <;> omega (splitDisjunctions := true)
theorem way_bounds {R G Bl : Int} (hb : In64 R G Bl) : (0 ≤ (wayF R G Bl).1 ∧ (wayF R G Bl).1 ≤ 5) ∧ (0 ≤ (wayF R G Bl).2.1 ∧ (wayF R G Bl).2.1 ≤ 64) ∧ (0 ≤ (wayF R G Bl).2.2 ∧ (wayF R G Bl).2.2 ≤ 64) := by
  have l' : 0 ≤ leadI R G Bl ∧ leadI R G Bl ≤ 5 := sixthOf_bound (decide (R = max R (max G Bl))) (decide (G = max R (max G Bl))) (decide (Bl = max R (max G Bl)))
  have k' : 0 ≤ bothI R G Bl ∧ bothI R G Bl ≤ 5 := sixthOf_bound (decide (R > min R (min G Bl))) (decide (G > min R (min G Bl))) (decide (Bl > min R (min G Bl)))
  have z1 := mid_lo (max_of3 R G Bl) (Int.min_le_left R (min G Bl)) (Int.le_trans (Int.min_le_right R (min G Bl)) (Int.min_le_left _ _)) (Int.le_trans (Int.min_le_right R (min G Bl)) (Int.min_le_right _ _))
  have z2 := mid_hi (min_of3 R G Bl) (Int.le_max_left R (max G Bl)) (Int.le_trans (Int.le_max_left _ _) (Int.le_max_right R (max G Bl))) (Int.le_trans (Int.le_max_right _ _) (Int.le_max_right R (max G Bl)))
  obtain ⟨m0, mM, M64⟩ := mm64 hb
  clear hb
  unfold wayF
  generalize leadI R G Bl = x at *
  generalize bothI R G Bl = y at *
  generalize R + G + Bl - min R (min G Bl) - max R (max G Bl) = z at *
  generalize min R (min G Bl) = m at *
  generalize max R (max G Bl) = M at *
  clear R G Bl
  have w1 := Int.sub_nonneg_of_le mM
  have w2 := Int.le_trans (Int.sub_le_self M m0) M64
  split
  · decide
  · split
    · exact ⟨l', (show (0 : Int) ≤ 0 ∧ (0 : Int) ≤ 64 by decide), w1, w2⟩
    · split
      · exact ⟨l', ⟨Int.sub_nonneg_of_le z1, Int.le_trans (Int.sub_le_self z m0) (Int.le_trans z2 M64)⟩, w1, w2⟩
      · exact ⟨k', ⟨Int.sub_nonneg_of_le z2, Int.le_trans (Int.sub_le_self M (Int.le_trans m0 z1)) M64⟩, w1, w2⟩
theorem hsv_ok {R G Bl : Int} (hb : In64 R G Bl) : (Float64.cmp (fmin3 (f64 R) (f64 G) (f64 Bl)) (fmax3 (f64 R) (f64 G) (f64 Bl)) == some Ordering.eq) = false → Float64.isZero (fmax3 (f64 R) (f64 G) (f64 Bl)) = false ∧ Float64.isZero (Float64.sub (fmax3 (f64 R) (f64 G) (f64 Bl)) (fmin3 (f64 R) (f64 G) (f64 Bl))) = false := by
  obtain ⟨⟨a1, a2⟩, ⟨b1, b2⟩, ⟨c1, c2⟩⟩ := hb
  exact hsv_okN (a := R.toNat) (b := G.toNat) (c := Bl.toNat) (by omega (splitDisjunctions := true)) (by omega (splitDisjunctions := true)) (by omega (splitDisjunctions := true))
theorem hls_ok {R G Bl : Int} (hb : In64 R G Bl) : (Float64.cmp (fmin3 (f64 R) (f64 G) (f64 Bl)) (fmax3 (f64 R) (f64 G) (f64 Bl)) == some Ordering.eq) = false → Float64.isZero (Float64.sub (fmax3 (f64 R) (f64 G) (f64 Bl)) (fmin3 (f64 R) (f64 G) (f64 Bl))) = false ∧ (hlsLow (f64 R) (f64 G) (f64 Bl) = true → Float64.isZero (Float64.add (fmax3 (f64 R) (f64 G) (f64 Bl)) (fmin3 (f64 R) (f64 G) (f64 Bl))) = false) ∧
      (hlsLow (f64 R) (f64 G) (f64 Bl) = false → Float64.isZero (Float64.sub (Float64.sub 4611686018427387904 (fmax3 (f64 R) (f64 G) (f64 Bl))) (fmin3 (f64 R) (f64 G) (f64 Bl))) = false) := by
  obtain ⟨⟨a1, a2⟩, ⟨b1, b2⟩, ⟨c1, c2⟩⟩ := hb
  exact hls_okN (a := R.toNat) (b := G.toNat) (c := Bl.toNat) (by omega (splitDisjunctions := true)) (by omega (splitDisjunctions := true)) (by omega (splitDisjunctions := true))
theorem AllNe.at {d : Nat} : ∀ {l : List (Addr × Obj)}, AllNe d l → ∀ {p : Nat} {o : Obj}, (p, o) ∈ l → @Ne Nat p d
  | [], _, _, _, h => nomatch h
  | q :: r, h, p, o, hm => by
    rcases List.mem_cons.mp hm with e | hm
    · have := h.1; rw [← e] at this; exact this
    · exact AllNe.at h.2 hm
theorem item3_0 {prog : Program} {w : World} {A : Around} {E : Value → Shared → Prop} {s : Shared} {h₀ : Heap} {L l : Addr} {news : List (Addr × Obj)} {x0 x1 x2 : Value} {c : Nat} {value slice : PySem.Expr} {u : Tok} {Q : Value → Shared → Prop}
    (N : News h₀ L s.heap news) (hm : (l, W.listOf #[x0, x1, x2] c) ∈ news) (h : Q x0 s)
    (hs : subscripted slice false (.ref l) (.int 0 u) = operate [.ref l, .int 0 u] (getItem (.ref l) (.int 0 u)) := by with_unfolding_all rfl) :
    wpAny (model prog w) A (subscriptTail value slice (.ref l) (.int 0 u)) Q E s := item_led N hm (by decide) (by decide) rfl h hs
theorem item3_1 {prog : Program} {w : World} {A : Around} {E : Value → Shared → Prop} {s : Shared} {h₀ : Heap} {L l : Addr} {news : List (Addr × Obj)} {x0 x1 x2 : Value} {c : Nat} {value slice : PySem.Expr} {u : Tok} {Q : Value → Shared → Prop}
    (N : News h₀ L s.heap news) (hm : (l, W.listOf #[x0, x1, x2] c) ∈ news) (h : Q x1 s)
    (hs : subscripted slice false (.ref l) (.int 1 u) = operate [.ref l, .int 1 u] (getItem (.ref l) (.int 1 u)) := by with_unfolding_all rfl) :
    wpAny (model prog w) A (subscriptTail value slice (.ref l) (.int 1 u)) Q E s := item_led N hm (by decide) (by decide) rfl h hs
theorem item3_2 {prog : Program} {w : World} {A : Around} {E : Value → Shared → Prop} {s : Shared} {h₀ : Heap} {L l : Addr} {news : List (Addr × Obj)} {x0 x1 x2 : Value} {c : Nat} {value slice : PySem.Expr} {u : Tok} {Q : Value → Shared → Prop}
    (N : News h₀ L s.heap news) (hm : (l, W.listOf #[x0, x1, x2] c) ∈ news) (h : Q x2 s)
    (hs : subscripted slice false (.ref l) (.int 2 u) = operate [.ref l, .int 2 u] (getItem (.ref l) (.int 2 u)) := by with_unfolding_all rfl) :
    wpAny (model prog w) A (subscriptTail value slice (.ref l) (.int 2 u)) Q E s := item_led N hm (by decide) (by decide) rfl h hs
end Mine
end

section
open PySem PySem.W PySem.Calls PySem.Spec PyProof.Rows
set_option maxRecDepth 100000
set_option maxHeartbeats 8000000
namespace Mine
noncomputable def loI (R G B : Int) : Int := min R (min G B)
noncomputable def hiI (R G B : Int) : Int := max R (max G B)
noncomputable def nearI (R G B : Int) : Int := min (hiI R G B + loI R G B) (128 - hiI R G B - loI R G B)
noncomputable def rowI (R G B : Int) : List Int :=
  (((([(wayF R G B).1] ++ quoRow (wayF R G B).2.2 (wayF R G B).2.1) ++ quoRow (hiI R G B) (hiI R G B - loI R G B)) ++ [hiI R G B, hiI R G B + loI R G B]) ++ quoRow (nearI R G B) (hiI R G B - loI R G B))
noncomputable def sharesI (R G B : Int) : List (Int × Int) :=
  [((wayF R G B).1 * (wayF R G B).2.2 + (wayF R G B).2.1, (wayF R G B).2.2), (hiI R G B - loI R G B, max (hiI R G B) 1), (hiI R G B, 1), (hiI R G B + loI R G B, 1), (hiI R G B - loI R G B, max (nearI R G B) 1)]
noncomputable def floatsI (R G B : Int) : List UInt64 :=
  [(hsvF (f64 R) (f64 G) (f64 B)).1, (hsvF (f64 R) (f64 G) (f64 B)).2.1, (hsvF (f64 R) (f64 G) (f64 B)).2.2, (hlsF (f64 R) (f64 G) (f64 B)).2.1, (hlsF (f64 R) (f64 G) (f64 B)).2.2]
/-- two ints in a list of the ledger -/
noncomputable def PairIn (G : List (Addr × Obj)) (S : Addr) (n m : Int) : Prop := ∃ (u v : Tok) (c : Nat), (S, W.listOf #[.int n u, .int m v] c) ∈ G
noncomputable def IntsIn (G : List (Addr × Obj)) (S : Addr) (ns : List Int) : Prop := ∃ (vs : Array Value) (c : Nat), (S, W.listOf vs c) ∈ G ∧ IntsAre vs.toList ns
noncomputable def FltsIn (G : List (Addr × Obj)) (S : Addr) (a b c d e : UInt64) : Prop := ∃ (t1 t2 t3 t4 t5 : Tok) (n : Nat), (S, W.listOf #[.float a t1, .float b t2, .float c t3, .float d t4, .float e t5] n) ∈ G
noncomputable def HeadIn (G : List (Addr × Obj)) (D Rw Sh Fl : Addr) (a : UInt64) : Prop := ∃ (t : Tok) (n : Nat), (D, W.listOf #[.ref Rw, .ref Sh, .ref Fl, .float a t] n) ∈ G
noncomputable def RefsIn (G : List (Addr × Obj)) (D S0 S1 S2 S3 S4 : Addr) : Prop := ∃ (n : Nat), (D, W.listOf #[.ref S0, .ref S1, .ref S2, .ref S3, .ref S4] n) ∈ G
/-- what _law_all tells of a colour, as it lies in a ledger -/
structure ThingM (G : List (Addr × Obj)) (D : Addr) (R Gr B : Int) : Prop where
  it : ∃ (Rw Sh Fl S0 S1 S2 S3 S4 : Addr), HeadIn G D Rw Sh Fl (hlsF (f64 R) (f64 Gr) (f64 B)).1 ∧ IntsIn G Rw (rowI R Gr B) ∧ RefsIn G Sh S0 S1 S2 S3 S4 ∧
    FltsIn G Fl (hsvF (f64 R) (f64 Gr) (f64 B)).1 (hsvF (f64 R) (f64 Gr) (f64 B)).2.1 (hsvF (f64 R) (f64 Gr) (f64 B)).2.2 (hlsF (f64 R) (f64 Gr) (f64 B)).2.1 (hlsF (f64 R) (f64 Gr) (f64 B)).2.2 ∧
    PairIn G S0 ((wayF R Gr B).1 * (wayF R Gr B).2.2 + (wayF R Gr B).2.1) (wayF R Gr B).2.2 ∧ PairIn G S1 (hiI R Gr B - loI R Gr B) (max (hiI R Gr B) 1) ∧ PairIn G S2 (hiI R Gr B) 1 ∧
    PairIn G S3 (hiI R Gr B + loI R Gr B) 1 ∧ PairIn G S4 (hiI R Gr B - loI R Gr B) (max (nearI R Gr B) 1)
theorem PairIn.mono {G G' : List (Addr × Obj)} (k : ∀ p ∈ G, p ∈ G') {S : Addr} {n m : Int} (h : PairIn G S n m) : PairIn G' S n m := let ⟨u, v, c, q⟩ := h; ⟨u, v, c, k _ q⟩
theorem IntsIn.mono {G G' : List (Addr × Obj)} (k : ∀ p ∈ G, p ∈ G') {S : Addr} {ns : List Int} (h : IntsIn G S ns) : IntsIn G' S ns := let ⟨u, v, q, r⟩ := h; ⟨u, v, k _ q, r⟩
theorem FltsIn.mono {G G' : List (Addr × Obj)} (k : ∀ p ∈ G, p ∈ G') {S : Addr} {a b c d e : UInt64} (h : FltsIn G S a b c d e) : FltsIn G' S a b c d e := let ⟨u, v, w, x, y, n, q⟩ := h; ⟨u, v, w, x, y, n, k _ q⟩
theorem HeadIn.mono {G G' : List (Addr × Obj)} (k : ∀ p ∈ G, p ∈ G') {S a b c : Addr} {d : UInt64} (h : HeadIn G S a b c d) : HeadIn G' S a b c d := let ⟨u, v, q⟩ := h; ⟨u, v, k _ q⟩
theorem RefsIn.mono {G G' : List (Addr × Obj)} (k : ∀ p ∈ G, p ∈ G') {S a b c d e : Addr} (h : RefsIn G S a b c d e) : RefsIn G' S a b c d e := let ⟨u, q⟩ := h; ⟨u, k _ q⟩
theorem ThingM.mono {G G' : List (Addr × Obj)} {D : Addr} {R Gr B : Int} (T : ThingM G D R Gr B) (k : ∀ p ∈ G, p ∈ G') : ThingM G' D R Gr B := by
  obtain ⟨Rw, Sh, Fl, S0, S1, S2, S3, S4, a1, a2, a3, a4, b0, b1, b2, b3, b4⟩ := T.it
  exact ⟨Rw, Sh, Fl, S0, S1, S2, S3, S4, a1.mono k, a2.mono k, a3.mono k, a4.mono k, b0.mono k, b1.mono k, b2.mono k, b3.mono k, b4.mono k⟩
/-- the lists of a ledger, alone -/
noncomputable def isLst (o : Obj) : Prop := ∃ its c, o = W.listOf its c
/-- a list of the ledger is no table: it is new -/
theorem list_new {g h' he : Heap} {L D c5e c8e c5 c8 : Addr} {t5 t8 o5 o8 : Obj} {its : Array Value} {c : Nat} {news : List (Addr × Obj)} (TB : Tabs t5 t8 c5 c8 o5 o8) (N : News g L h' news) (hg : g = hideAll he [65, 58, c5e, c8e])
    (m5 : (65, t5) ∈ news) (m8 : (58, t8) ∈ news) (mc5 : (c5, o5) ∈ news) (mc8 : (c8, o8) ∈ news) (E5 : Since 65 he c5e c5) (E8 : Since 58 he c8e c8) (hm : (D, W.listOf its c) ∈ news) : he.get? D = none := by
  have same : ∀ (d : Addr) (o : Obj), (d, o) ∈ news → D = d → W.listOf its c = o := fun d o hd e => by
    have e1 := N.get hm
    have e2 := N.get hd
    rw [e, e2] at e1
    exact (Option.some.inj e1).symm
  have n5 : D ≠ 65 := fun e => by
    have := same _ _ m5 e
    rcases TB.k5 with ⟨q, _⟩ | ⟨q, _⟩ <;> (rw [q] at this; cases this)
  have n8 : D ≠ 58 := fun e => by
    have := same _ _ m8 e
    rcases TB.k8 with ⟨q, _⟩ | ⟨q, _⟩ <;> (rw [q] at this; cases this)
  have nc5 : D ≠ c5 := fun e => by
    have := same _ _ mc5 e
    rcases TB.k5 with ⟨_, q⟩ | ⟨_, _, vs, t, q, _⟩
    · exact n5 (e.trans q)
    · rw [← this] at q; cases q
  have nc8 : D ≠ c8 := fun e => by
    have := same _ _ mc8 e
    rcases TB.k8 with ⟨_, q⟩ | ⟨_, _, vs, t, q, _⟩
    · exact n8 (e.trans q)
    · rw [← this] at q; cases q
  exact fresh_of N hm hg (off_since TB E5 E8 n5 n8 nc5 nc8)
/-- the thing that lies in the call's ledger is all new -/
theorem thing_new {g h' he : Heap} {L D c5e c8e c5 c8 : Addr} {t5 t8 o5 o8 : Obj} {R Gr B : Int} {news : List (Addr × Obj)} (TB : Tabs t5 t8 c5 c8 o5 o8) (N : News g L h' news) (hg : g = hideAll he [65, 58, c5e, c8e])
    (m5 : (65, t5) ∈ news) (m8 : (58, t8) ∈ news) (mc5 : (c5, o5) ∈ news) (mc8 : (c8, o8) ∈ news) (E5 : Since 65 he c5e c5) (E8 : Since 58 he c8e c8) (T : ThingM news D R Gr B) :
    ∃ D' es, Value.ref D = .ref D' ∧ ThingM es D' R Gr B ∧ ∀ p ∈ es, h'.get? p.1 = some p.2 ∧ he.get? p.1 = none ∧ isLst p.2 := by
  obtain ⟨Rw, Sh, Fl, S0, S1, S2, S3, S4, ⟨ta, n1, a1⟩, ⟨vs, n2, a2, a2'⟩, ⟨n3, a3⟩, ⟨f1, f2, f3, f4, f5, n4, a4⟩, ⟨u0, v0, d0, b0⟩, ⟨u1, v1, d1, b1⟩, ⟨u2, v2, d2, b2⟩, ⟨u3, v3, d3, b3⟩, ⟨u4, v4, d4, b4⟩⟩ := T.it
  have k : ∀ {a : Addr} {its : Array Value} {n : Nat}, (a, W.listOf its n) ∈ news → h'.get? a = some (W.listOf its n) ∧ he.get? a = none ∧ isLst (W.listOf its n) := fun hm => ⟨N.get hm, list_new TB N hg m5 m8 mc5 mc8 E5 E8 hm, _, _, rfl⟩
  refine ⟨D, [(D, _), (Rw, _), (Sh, _), (Fl, _), (S0, _), (S1, _), (S2, _), (S3, _), (S4, _)], rfl, ⟨Rw, Sh, Fl, S0, S1, S2, S3, S4, ⟨ta, n1, .head _⟩, ⟨vs, n2, .tail _ (.head _), a2'⟩, ⟨n3, .tail _ (.tail _ (.head _))⟩, ⟨f1, f2, f3, f4, f5, n4, .tail _ (.tail _ (.tail _ (.head _)))⟩, ⟨u0, v0, d0, .tail _ (.tail _ (.tail _ (.tail _ (.head _))))⟩, ⟨u1, v1, d1, .tail _ (.tail _ (.tail _ (.tail _ (.tail _ (.head _)))))⟩, ⟨u2, v2, d2, .tail _ (.tail _ (.tail _ (.tail _ (.tail _ (.tail _ (.head _))))))⟩, ⟨u3, v3, d3, .tail _ (.tail _ (.tail _ (.tail _ (.tail _ (.tail _ (.tail _ (.head _)))))))⟩, ⟨u4, v4, d4, .tail _ (.tail _ (.tail _ (.tail _ (.tail _ (.tail _ (.tail _ (.tail _ (.head _))))))))⟩⟩, ?_⟩
  exact List.forall_mem_cons.mpr ⟨k a1, List.forall_mem_cons.mpr ⟨k a2, List.forall_mem_cons.mpr ⟨k a3, List.forall_mem_cons.mpr ⟨k a4, List.forall_mem_cons.mpr ⟨k b0, List.forall_mem_cons.mpr ⟨k b1, List.forall_mem_cons.mpr ⟨k b2, List.forall_mem_cons.mpr ⟨k b3, List.forall_mem_cons.mpr ⟨k b4, List.forall_mem_nil _⟩⟩⟩⟩⟩⟩⟩⟩⟩
end Mine
end

theorem Mine.fresh29 : True := by
  w_top off
  trivial
section
open PySem PySem.W PySem.Calls PySem.Spec PyProof.Rows
set_option maxRecDepth 100000
set_option maxHeartbeats 8000000
namespace Mine
local macro_rules | `(tactic| k_ne) => `(tactic| ((try dsimp only); first | exact AllNe.at (by assumption) (by k_mem) | exact Ne.symm (AllNe.at (by assumption) (by k_mem)) | (refine neN ?_; omega)))
theorem d_all {w : World} {x : Int} {t1 : Tok} {s : Shared} :
    DoesT w 60 138 [.int x t1] s (fun v h => ∃ D es, v = .ref D ∧ ThingM es D (colR x) (colG x) (colB x) ∧ ∀ p ∈ es, h.get? p.1 = some p.2 ∧ s.heap.get? p.1 = none ∧ isLst p.2) := by
  intro t5 t8 c5 c8 o5 o8 TB
  intro p loose mean mg mb dp un gd cn cs fa ccd cl outer A₀ base h₀ L m Q E B F N X T hk hd hu hret
  refine wpAny_call ?_
  k_dflt ((refine' enterK ?k1 ?k2 ?k3 ?k4 ?k5 ?kA ?kF ?kK ?k6 ?k7 ?k8 ?k9 ?kB ?_ ?c2 ?c3 ?c4 ?c5; (case kA => exact rfl); (case kF => exact rfl); (case kK => assumption); (case k1 => k_asm); (case k2 => k_asm); (case k3 => k_asm); (case k4 => k_asm); (case k5 => k_asm); (case k6 => k_is); (case k7 => k_is); (case k8 => ktr_room); (case k9 => exact BindsTo.of_eq rfl); (case c5 => decide); (case kB => exact locs rfl); (case c2 => exact rfl); (case c3 => exact rfl); (case c4 => exact rfl); k_whole))
  intro g' L' h' hg' F' N' B' X' T' l0'
  have hgg : g' = hideAll s.heap [65, 58, c5, c8] := hg'
  have E5 : Since 65 s.heap c5 c5 := .inl rfl
  have E8 : Since 58 s.heap c8 c8 := .inl rfl
  have l0 := l0'
  k_lt l0
  simp only [tail4] at N'
  have hb := col_bounds x
  have hb' : In64 (colR x) (colG x) (colB x) := hb
  unfold In64 at hb'
  generalize hR : colR x = R at hb hb'
  generalize hG : colG x = G at hb hb'
  generalize hBl : colB x = Bl at hb hb'
  obtain ⟨lo, hlo⟩ : ∃ lo, Min3 R G Bl lo := ⟨_, ⟨rfl⟩⟩
  obtain ⟨hi, hhi⟩ : ∃ hi, Max3 R G Bl hi := ⟨_, ⟨rfl⟩⟩
  have hlh : 0 ≤ lo ∧ lo ≤ hi ∧ hi ≤ 64 := by have e1 := hlo.out; have e2 := hhi.out; omega
  obtain ⟨near, hnear⟩ : ∃ near, Min2 (hi + lo) (128 - hi - lo) near := ⟨_, ⟨rfl⟩⟩
  have hn : 0 ≤ near ∧ near ≤ 64 := by have e1 := hnear.out; omega
  obtain ⟨mh, hmh⟩ : ∃ mh, Max2 hi 1 mh := ⟨_, ⟨rfl⟩⟩
  obtain ⟨mn, hmn⟩ : ∃ mn, Max2 near 1 mn := ⟨_, ⟨rfl⟩⟩
  have hH : Hid (lo = min R (min G Bl) ∧ hi = max R (max G Bl)) := ⟨hlo.out.symm, hhi.out.symm⟩
  have hw := way_bounds hb
  have hzv := hsv_ok hb
  have hzl := hls_ok hb
  (try dsimp only)
  (try k_fold)
  (repeat' (first | (k_unfold; (try dsimp only)) | (k_end; kc_close) | (first | ((with_reducible show wpAny _ _ (eval (PySem.Expr.Name _ _) _) _ _ _); k_dflt (refine' nameX_L ?F ?v ?_ ?a ?b (by decide); (case F => k_asm); (case v => exact Eq.refl (some _)); (case a => exact Eq.refl ScopeKind.function); (case b => exact Eq.refl (some NameKind.local)); k_whole)) | ((with_reducible show wpAny _ _ (eval (PySem.Expr.BinOp (PySem.Expr.Name _ _) _ (PySem.Expr.Name _ _) _) _) _ _ _); k_dflt (refine' bin_nn ?F ?v ?v2 ?_ ?a ?b ?b2 (by decide) (by decide); (case F => k_asm); (case v => exact Eq.refl (some _)); (case a => exact Eq.refl ScopeKind.function); (case b => exact Eq.refl (some NameKind.local)); (case v2 => exact Eq.refl (some _)); (case b2 => exact Eq.refl (some NameKind.local)); k_whole)) | ((with_reducible show wpAny _ _ (eval (PySem.Expr.BinOp (PySem.Expr.Name _ _) _ _ _) _) _ _ _); k_dflt (refine' bin_n ?F ?v ?_ ?a ?b (by decide); (case F => k_asm); (case v => exact Eq.refl (some _)); (case a => exact Eq.refl ScopeKind.function); (case b => exact Eq.refl (some NameKind.local)); k_whole)) | ((with_reducible show wpAny _ _ (execs (Stmt.Assign [PySem.Expr.Name _ _] _ _ :: _) _) _ _ _); k_dflt (refine' asg ?_; k_whole)) | ((with_reducible show wpAny _ _ (storeName _ _ _) _ _ _); k_dflt (refine' st_tk ?F ?N ?_ ?a ?b; (case F => k_asm); (case N => k_asm); (case a => exact Eq.refl ScopeKind.function); (case b => exact Eq.refl (some NameKind.local)); k_whole); intro h_z tk_z F_z N_z; (try k_sweep)) | ((with_reducible show wpAny _ _ (spliced (backTo _ (starEach (PySem.Expr.Name _ _ :: _) _))) _ _ _); k_dflt (refine' sp_n ?F ?v ?_ ?a ?b (by decide); (case F => k_asm); (case v => exact Eq.refl (some _)); (case a => exact Eq.refl ScopeKind.function); (case b => exact Eq.refl (some NameKind.local)); k_whole)) | ((with_reducible show wpAny _ _ (spliced (backTo _ (starEach (PySem.Expr.Constant (PySem.Const.int _) _ _ :: _) _))) _ _ _); k_dflt (refine' sp_c ?_; k_whole)) | ((with_reducible show wpAny _ _ (subscriptTail _ _ (Value.ref _) (Value.int 2 _)) _ _ _); k_dflt (refine' item3_2 ?k1 ?k2 ?_ ?k6; (case k1 => k_asm); (case k2 => k_mem); (case k6 => with_unfolding_all rfl); k_whole)) | ((with_reducible show wpAny _ _ (subscriptTail _ _ (Value.ref _) (Value.int 1 _)) _ _ _); k_dflt (refine' item3_1 ?k1 ?k2 ?_ ?k6; (case k1 => k_asm); (case k2 => k_mem); (case k6 => with_unfolding_all rfl); k_whole)) | ((with_reducible show wpAny _ _ (subscriptTail _ _ (Value.ref _) (Value.int 0 _)) _ _ _); k_dflt (refine' item3_0 ?k1 ?k2 ?_ ?k6; (case k1 => k_asm); (case k2 => k_mem); (case k6 => with_unfolding_all rfl); k_whole)) | ((with_reducible show wpAny _ _ (binaryOp Operator.Add (Value.ref _) (Value.ref _)) _ _ _); k_dflt (refine' add_led ?k1 ?k2 ?k3 ?k4 ?k5 ?_; (case k1 => k_asm); (case k2 => k_asm); (case k3 => k_mem); (case k4 => k_mem); (case k5 => (simp only [Array.size_append, Array.size_replicate, List.size_toArray, List.length_cons, List.length_nil]; omega)); k_whole); intro Dq_z hq_z Fq_z Nq_z l1_z; (try k_lt l1_z); (try k_sweep)) | ((with_reducible show wpAny _ _ (binaryOp Operator.Div (Value.int _ _) (Value.int _ _)) _ _ _); k_dflt (refine' div64_to rfl ?k1 ?k2 ?_; (case k1 => omega); (case k2 => omega)); intro tq_z tkq_z) | ((with_reducible show wpAny _ _ (call (Value.builtin "max") _) _ _ _); k_dflt (first | (refine' max3_led ?k1 ?k2 ?k3 rfl ?k4 ?_; (case k1 => k_asm); (case k2 => k_asm); (case k3 => k_mem); (case k4 => assumption)) | (refine' max2_to ?k1 ?k2 rfl ?k4 ?_; (case k1 => k_asm); (case k2 => k_asm); (case k4 => assumption))); intro hq_z tq_z tkq_z Fq_z Nq_z; (try k_sweep)) | ((with_reducible show wpAny _ _ (call (Value.builtin "min") _) _ _ _); k_dflt (first | (refine' min3_led ?k1 ?k2 ?k3 rfl ?k4 ?_; (case k1 => k_asm); (case k2 => k_asm); (case k3 => k_mem); (case k4 => assumption)) | (refine' min2_to ?k1 ?k2 rfl ?k4 ?_; (case k1 => k_asm); (case k2 => k_asm); (case k4 => assumption))); intro hq_z tq_z tkq_z Fq_z Nq_z; (try k_sweep)) | ((with_reducible show wpAny _ _ (call (Value.ref 91) _) _ _ _); k_dflt (refine' use1 (c_hls ?z) ?k1 ?k2 ?k3 ?k4 ?kK ?k5 ?kd ?ku ?_; (case k1 => k_asm); (case k2 => k_asm); (case k3 => k_asm); (case k4 => k_asm); (case kK => rfl); (case k5 => k_asm); (case z => assumption); (case kd => ktr_room); (case ku => ktr_units); k_whole); intro D9_z o9_z h9_z tk9_z F9_z N9_z nD9_z hP9_z; obtain ⟨t91_z, t92_z, t93_z, c9_z, e9_z⟩ := hP9_z; subst e9_z; (try k_sweep)) | ((with_reducible show wpAny _ _ (call (Value.ref 98) _) _ _ _); k_dflt (refine' use1 (c_hsv ?z) ?k1 ?k2 ?k3 ?k4 ?kK ?k5 ?kd ?ku ?_; (case k1 => k_asm); (case k2 => k_asm); (case k3 => k_asm); (case k4 => k_asm); (case kK => rfl); (case k5 => k_asm); (case z => assumption); (case kd => ktr_room); (case ku => ktr_units); k_whole); intro D9_z o9_z h9_z tk9_z F9_z N9_z nD9_z hP9_z; obtain ⟨t91_z, t92_z, t93_z, c9_z, e9_z⟩ := hP9_z; subst e9_z; (try k_sweep)) | ((with_reducible show wpAny _ _ (call (Value.ref 105) _) _ _ _); k_dflt ((first | (refine' useT1 (rest := []) (d_quo ?a1 ?a2 ?a3 ?a4) ?tb ?k1 ?k2 ?k3 ?k4 ?kK ?k5 ?kne ?kd ?ku ?_; (case k5 => k_asm)) | (refine' useT1 (rest := [_]) (d_quo ?a1 ?a2 ?a3 ?a4) ?tb ?k1 ?k2 ?k3 ?k4 ?kK ?k5 ?kne ?kd ?ku ?_; (case k5 => k_asm)) | (refine' useT1 (rest := [_, _]) (d_quo ?a1 ?a2 ?a3 ?a4) ?tb ?k1 ?k2 ?k3 ?k4 ?kK ?k5 ?kne ?kd ?ku ?_; (case k5 => k_asm)) | (refine' useT1 (rest := [_, _, _]) (d_quo ?a1 ?a2 ?a3 ?a4) ?tb ?k1 ?k2 ?k3 ?k4 ?kK ?k5 ?kne ?kd ?ku ?_; (case k5 => k_asm)) | (refine' useT1 (rest := [_, _, _, _]) (d_quo ?a1 ?a2 ?a3 ?a4) ?tb ?k1 ?k2 ?k3 ?k4 ?kK ?k5 ?kne ?kd ?ku ?_; (case k5 => k_asm)) | (refine' useT1 (rest := [_, _, _, _, _]) (d_quo ?a1 ?a2 ?a3 ?a4) ?tb ?k1 ?k2 ?k3 ?k4 ?kK ?k5 ?kne ?kd ?ku ?_; (case k5 => k_asm)) | (refine' useT1 (rest := [_, _, _, _, _, _]) (d_quo ?a1 ?a2 ?a3 ?a4) ?tb ?k1 ?k2 ?k3 ?k4 ?kK ?k5 ?kne ?kd ?ku ?_; (case k5 => k_asm)) | (refine' useT1 (rest := [_, _, _, _, _, _, _]) (d_quo ?a1 ?a2 ?a3 ?a4) ?tb ?k1 ?k2 ?k3 ?k4 ?kK ?k5 ?kne ?kd ?ku ?_; (case k5 => k_asm)) | (refine' useT1 (rest := [_, _, _, _, _, _, _, _]) (d_quo ?a1 ?a2 ?a3 ?a4) ?tb ?k1 ?k2 ?k3 ?k4 ?kK ?k5 ?kne ?kd ?ku ?_; (case k5 => k_asm)) | (refine' useT1 (rest := [_, _, _, _, _, _, _, _, _]) (d_quo ?a1 ?a2 ?a3 ?a4) ?tb ?k1 ?k2 ?k3 ?k4 ?kK ?k5 ?kne ?kd ?ku ?_; (case k5 => k_asm)) | (refine' useT1 (rest := [_, _, _, _, _, _, _, _, _, _]) (d_quo ?a1 ?a2 ?a3 ?a4) ?tb ?k1 ?k2 ?k3 ?k4 ?kK ?k5 ?kne ?kd ?ku ?_; (case k5 => k_asm)) | (refine' useT1 (rest := [_, _, _, _, _, _, _, _, _, _, _]) (d_quo ?a1 ?a2 ?a3 ?a4) ?tb ?k1 ?k2 ?k3 ?k4 ?kK ?k5 ?kne ?kd ?ku ?_; (case k5 => k_asm)) | (refine' useT1 (rest := [_, _, _, _, _, _, _, _, _, _, _, _]) (d_quo ?a1 ?a2 ?a3 ?a4) ?tb ?k1 ?k2 ?k3 ?k4 ?kK ?k5 ?kne ?kd ?ku ?_; (case k5 => k_asm))); (case k1 => k_asm); (case k2 => k_asm); (case k3 => k_asm); (case k4 => k_asm); (case tb => assumption); (case kK => rfl); (case a1 => omega); (case a2 => omega); (case a3 => omega); (case a4 => omega); (case kne => ((repeat (refine' List.forall_mem_cons.mpr ⟨⟨?_, ?_, ?_, ?_⟩, ?_⟩; (iterate 4 k_ne))); exact List.forall_mem_nil _)); (case kd => ktr_room); (case ku => ktr_units); k_whole); intro D9_z o9_z h9_z tk9_z t59_z t89_z c59_z c89_z o59_z o89_z F9_z N9_z TB9_z n59_z n89_z nD9_z S59_z S89_z hP9_z; obtain ⟨E59_z, E89_z⟩ := since_step (by assumption) (by assumption) (by assumption) (by k_mem) (by k_mem) (by k_mem) (by k_mem) (by assumption) (by assumption) S59_z S89_z; clear S59_z S89_z; simp only [tail4, List.cons_append, List.nil_append] at N9_z nD9_z; obtain ⟨vs9_z, c9_z, e9_z, hI9_z⟩ := hP9_z; subst e9_z; (have hS9_z := quoRow_size hI9_z (by omega)); (try k_sweep)) | ((with_reducible show wpAny _ _ (call (Value.ref 117) _) _ _ _); k_dflt (refine' use1 (d_way ?hD ?hH) ?k1 ?k2 ?k3 ?k4 ?kK ?k5 ?kd ?ku ?_; (case k1 => k_asm); (case k2 => k_asm); (case k3 => k_asm); (case k4 => k_asm); (case kK => rfl); (case k5 => k_asm); (case hD => exact News.get (by k_asm) (by k_mem)); (case hH => assumption); (case kd => ktr_room); (case ku => ktr_units); k_whole); intro D9_z o9_z h9_z tk9_z F9_z N9_z nD9_z hP9_z; obtain ⟨t91_z, t92_z, t93_z, c9_z, e9_z⟩ := hP9_z; subst e9_z; (try k_sweep)) | ((with_reducible show wpAny _ _ (call (Value.ref 112) _) _ _ _); k_dflt (refine' use1 (c_col ?r1 ?r2 ?r3) ?k1 ?k2 ?k3 ?k4 ?kK ?k5 ?kd ?ku ?_; (case k1 => k_asm); (case k2 => k_asm); (case k3 => k_asm); (case k4 => k_asm); (case kK => rfl); (case k5 => k_asm); (case r1 => assumption); (case r2 => assumption); (case r3 => assumption); (case kd => ktr_room); (case ku => ktr_units); k_whole); intro D9_z o9_z h9_z tk9_z F9_z N9_z nD9_z hP9_z; obtain ⟨t91_z, t92_z, t93_z, c9_z, e9_z⟩ := hP9_z; subst e9_z; (try k_sweep)) | walk1) | (dsimp only; (first | ((with_reducible show wpAny _ _ (eval (PySem.Expr.Name _ _) _) _ _ _); k_dflt (refine' nameX_L ?F ?v ?_ ?a ?b (by decide); (case F => k_asm); (case v => exact Eq.refl (some _)); (case a => exact Eq.refl ScopeKind.function); (case b => exact Eq.refl (some NameKind.local)); k_whole)) | ((with_reducible show wpAny _ _ (eval (PySem.Expr.BinOp (PySem.Expr.Name _ _) _ (PySem.Expr.Name _ _) _) _) _ _ _); k_dflt (refine' bin_nn ?F ?v ?v2 ?_ ?a ?b ?b2 (by decide) (by decide); (case F => k_asm); (case v => exact Eq.refl (some _)); (case a => exact Eq.refl ScopeKind.function); (case b => exact Eq.refl (some NameKind.local)); (case v2 => exact Eq.refl (some _)); (case b2 => exact Eq.refl (some NameKind.local)); k_whole)) | ((with_reducible show wpAny _ _ (eval (PySem.Expr.BinOp (PySem.Expr.Name _ _) _ _ _) _) _ _ _); k_dflt (refine' bin_n ?F ?v ?_ ?a ?b (by decide); (case F => k_asm); (case v => exact Eq.refl (some _)); (case a => exact Eq.refl ScopeKind.function); (case b => exact Eq.refl (some NameKind.local)); k_whole)) | ((with_reducible show wpAny _ _ (execs (Stmt.Assign [PySem.Expr.Name _ _] _ _ :: _) _) _ _ _); k_dflt (refine' asg ?_; k_whole)) | ((with_reducible show wpAny _ _ (storeName _ _ _) _ _ _); k_dflt (refine' st_tk ?F ?N ?_ ?a ?b; (case F => k_asm); (case N => k_asm); (case a => exact Eq.refl ScopeKind.function); (case b => exact Eq.refl (some NameKind.local)); k_whole); intro h_z tk_z F_z N_z; (try k_sweep)) | ((with_reducible show wpAny _ _ (spliced (backTo _ (starEach (PySem.Expr.Name _ _ :: _) _))) _ _ _); k_dflt (refine' sp_n ?F ?v ?_ ?a ?b (by decide); (case F => k_asm); (case v => exact Eq.refl (some _)); (case a => exact Eq.refl ScopeKind.function); (case b => exact Eq.refl (some NameKind.local)); k_whole)) | ((with_reducible show wpAny _ _ (spliced (backTo _ (starEach (PySem.Expr.Constant (PySem.Const.int _) _ _ :: _) _))) _ _ _); k_dflt (refine' sp_c ?_; k_whole)) | ((with_reducible show wpAny _ _ (subscriptTail _ _ (Value.ref _) (Value.int 2 _)) _ _ _); k_dflt (refine' item3_2 ?k1 ?k2 ?_ ?k6; (case k1 => k_asm); (case k2 => k_mem); (case k6 => with_unfolding_all rfl); k_whole)) | ((with_reducible show wpAny _ _ (subscriptTail _ _ (Value.ref _) (Value.int 1 _)) _ _ _); k_dflt (refine' item3_1 ?k1 ?k2 ?_ ?k6; (case k1 => k_asm); (case k2 => k_mem); (case k6 => with_unfolding_all rfl); k_whole)) | ((with_reducible show wpAny _ _ (subscriptTail _ _ (Value.ref _) (Value.int 0 _)) _ _ _); k_dflt (refine' item3_0 ?k1 ?k2 ?_ ?k6; (case k1 => k_asm); (case k2 => k_mem); (case k6 => with_unfolding_all rfl); k_whole)) | ((with_reducible show wpAny _ _ (binaryOp Operator.Add (Value.ref _) (Value.ref _)) _ _ _); k_dflt (refine' add_led ?k1 ?k2 ?k3 ?k4 ?k5 ?_; (case k1 => k_asm); (case k2 => k_asm); (case k3 => k_mem); (case k4 => k_mem); (case k5 => (simp only [Array.size_append, Array.size_replicate, List.size_toArray, List.length_cons, List.length_nil]; omega)); k_whole); intro Dq_z hq_z Fq_z Nq_z l1_z; (try k_lt l1_z); (try k_sweep)) | ((with_reducible show wpAny _ _ (binaryOp Operator.Div (Value.int _ _) (Value.int _ _)) _ _ _); k_dflt (refine' div64_to rfl ?k1 ?k2 ?_; (case k1 => omega); (case k2 => omega)); intro tq_z tkq_z) | ((with_reducible show wpAny _ _ (call (Value.builtin "max") _) _ _ _); k_dflt (first | (refine' max3_led ?k1 ?k2 ?k3 rfl ?k4 ?_; (case k1 => k_asm); (case k2 => k_asm); (case k3 => k_mem); (case k4 => assumption)) | (refine' max2_to ?k1 ?k2 rfl ?k4 ?_; (case k1 => k_asm); (case k2 => k_asm); (case k4 => assumption))); intro hq_z tq_z tkq_z Fq_z Nq_z; (try k_sweep)) | ((with_reducible show wpAny _ _ (call (Value.builtin "min") _) _ _ _); k_dflt (first | (refine' min3_led ?k1 ?k2 ?k3 rfl ?k4 ?_; (case k1 => k_asm); (case k2 => k_asm); (case k3 => k_mem); (case k4 => assumption)) | (refine' min2_to ?k1 ?k2 rfl ?k4 ?_; (case k1 => k_asm); (case k2 => k_asm); (case k4 => assumption))); intro hq_z tq_z tkq_z Fq_z Nq_z; (try k_sweep)) | ((with_reducible show wpAny _ _ (call (Value.ref 91) _) _ _ _); k_dflt (refine' use1 (c_hls ?z) ?k1 ?k2 ?k3 ?k4 ?kK ?k5 ?kd ?ku ?_; (case k1 => k_asm); (case k2 => k_asm); (case k3 => k_asm); (case k4 => k_asm); (case kK => rfl); (case k5 => k_asm); (case z => assumption); (case kd => ktr_room); (case ku => ktr_units); k_whole); intro D9_z o9_z h9_z tk9_z F9_z N9_z nD9_z hP9_z; obtain ⟨t91_z, t92_z, t93_z, c9_z, e9_z⟩ := hP9_z; subst e9_z; (try k_sweep)) | ((with_reducible show wpAny _ _ (call (Value.ref 98) _) _ _ _); k_dflt (refine' use1 (c_hsv ?z) ?k1 ?k2 ?k3 ?k4 ?kK ?k5 ?kd ?ku ?_; (case k1 => k_asm); (case k2 => k_asm); (case k3 => k_asm); (case k4 => k_asm); (case kK => rfl); (case k5 => k_asm); (case z => assumption); (case kd => ktr_room); (case ku => ktr_units); k_whole); intro D9_z o9_z h9_z tk9_z F9_z N9_z nD9_z hP9_z; obtain ⟨t91_z, t92_z, t93_z, c9_z, e9_z⟩ := hP9_z; subst e9_z; (try k_sweep)) | ((with_reducible show wpAny _ _ (call (Value.ref 105) _) _ _ _); k_dflt ((first | (refine' useT1 (rest := []) (d_quo ?a1 ?a2 ?a3 ?a4) ?tb ?k1 ?k2 ?k3 ?k4 ?kK ?k5 ?kne ?kd ?ku ?_; (case k5 => k_asm)) | (refine' useT1 (rest := [_]) (d_quo ?a1 ?a2 ?a3 ?a4) ?tb ?k1 ?k2 ?k3 ?k4 ?kK ?k5 ?kne ?kd ?ku ?_; (case k5 => k_asm)) | (refine' useT1 (rest := [_, _]) (d_quo ?a1 ?a2 ?a3 ?a4) ?tb ?k1 ?k2 ?k3 ?k4 ?kK ?k5 ?kne ?kd ?ku ?_; (case k5 => k_asm)) | (refine' useT1 (rest := [_, _, _]) (d_quo ?a1 ?a2 ?a3 ?a4) ?tb ?k1 ?k2 ?k3 ?k4 ?kK ?k5 ?kne ?kd ?ku ?_; (case k5 => k_asm)) | (refine' useT1 (rest := [_, _, _, _]) (d_quo ?a1 ?a2 ?a3 ?a4) ?tb ?k1 ?k2 ?k3 ?k4 ?kK ?k5 ?kne ?kd ?ku ?_; (case k5 => k_asm)) | (refine' useT1 (rest := [_, _, _, _, _]) (d_quo ?a1 ?a2 ?a3 ?a4) ?tb ?k1 ?k2 ?k3 ?k4 ?kK ?k5 ?kne ?kd ?ku ?_; (case k5 => k_asm)) | (refine' useT1 (rest := [_, _, _, _, _, _]) (d_quo ?a1 ?a2 ?a3 ?a4) ?tb ?k1 ?k2 ?k3 ?k4 ?kK ?k5 ?kne ?kd ?ku ?_; (case k5 => k_asm)) | (refine' useT1 (rest := [_, _, _, _, _, _, _]) (d_quo ?a1 ?a2 ?a3 ?a4) ?tb ?k1 ?k2 ?k3 ?k4 ?kK ?k5 ?kne ?kd ?ku ?_; (case k5 => k_asm)) | (refine' useT1 (rest := [_, _, _, _, _, _, _, _]) (d_quo ?a1 ?a2 ?a3 ?a4) ?tb ?k1 ?k2 ?k3 ?k4 ?kK ?k5 ?kne ?kd ?ku ?_; (case k5 => k_asm)) | (refine' useT1 (rest := [_, _, _, _, _, _, _, _, _]) (d_quo ?a1 ?a2 ?a3 ?a4) ?tb ?k1 ?k2 ?k3 ?k4 ?kK ?k5 ?kne ?kd ?ku ?_; (case k5 => k_asm)) | (refine' useT1 (rest := [_, _, _, _, _, _, _, _, _, _]) (d_quo ?a1 ?a2 ?a3 ?a4) ?tb ?k1 ?k2 ?k3 ?k4 ?kK ?k5 ?kne ?kd ?ku ?_; (case k5 => k_asm)) | (refine' useT1 (rest := [_, _, _, _, _, _, _, _, _, _, _]) (d_quo ?a1 ?a2 ?a3 ?a4) ?tb ?k1 ?k2 ?k3 ?k4 ?kK ?k5 ?kne ?kd ?ku ?_; (case k5 => k_asm)) | (refine' useT1 (rest := [_, _, _, _, _, _, _, _, _, _, _, _]) (d_quo ?a1 ?a2 ?a3 ?a4) ?tb ?k1 ?k2 ?k3 ?k4 ?kK ?k5 ?kne ?kd ?ku ?_; (case k5 => k_asm))); (case k1 => k_asm); (case k2 => k_asm); (case k3 => k_asm); (case k4 => k_asm); (case tb => assumption); (case kK => rfl); (case a1 => omega); (case a2 => omega); (case a3 => omega); (case a4 => omega); (case kne => ((repeat (refine' List.forall_mem_cons.mpr ⟨⟨?_, ?_, ?_, ?_⟩, ?_⟩; (iterate 4 k_ne))); exact List.forall_mem_nil _)); (case kd => ktr_room); (case ku => ktr_units); k_whole); intro D9_z o9_z h9_z tk9_z t59_z t89_z c59_z c89_z o59_z o89_z F9_z N9_z TB9_z n59_z n89_z nD9_z S59_z S89_z hP9_z; obtain ⟨E59_z, E89_z⟩ := since_step (by assumption) (by assumption) (by assumption) (by k_mem) (by k_mem) (by k_mem) (by k_mem) (by assumption) (by assumption) S59_z S89_z; clear S59_z S89_z; simp only [tail4, List.cons_append, List.nil_append] at N9_z nD9_z; obtain ⟨vs9_z, c9_z, e9_z, hI9_z⟩ := hP9_z; subst e9_z; (have hS9_z := quoRow_size hI9_z (by omega)); (try k_sweep)) | ((with_reducible show wpAny _ _ (call (Value.ref 117) _) _ _ _); k_dflt (refine' use1 (d_way ?hD ?hH) ?k1 ?k2 ?k3 ?k4 ?kK ?k5 ?kd ?ku ?_; (case k1 => k_asm); (case k2 => k_asm); (case k3 => k_asm); (case k4 => k_asm); (case kK => rfl); (case k5 => k_asm); (case hD => exact News.get (by k_asm) (by k_mem)); (case hH => assumption); (case kd => ktr_room); (case ku => ktr_units); k_whole); intro D9_z o9_z h9_z tk9_z F9_z N9_z nD9_z hP9_z; obtain ⟨t91_z, t92_z, t93_z, c9_z, e9_z⟩ := hP9_z; subst e9_z; (try k_sweep)) | ((with_reducible show wpAny _ _ (call (Value.ref 112) _) _ _ _); k_dflt (refine' use1 (c_col ?r1 ?r2 ?r3) ?k1 ?k2 ?k3 ?k4 ?kK ?k5 ?kd ?ku ?_; (case k1 => k_asm); (case k2 => k_asm); (case k3 => k_asm); (case k4 => k_asm); (case kK => rfl); (case k5 => k_asm); (case r1 => assumption); (case r2 => assumption); (case r3 => assumption); (case kd => ktr_room); (case ku => ktr_units); k_whole); intro D9_z o9_z h9_z tk9_z F9_z N9_z nD9_z hP9_z; obtain ⟨t91_z, t92_z, t93_z, c9_z, e9_z⟩ := hP9_z; subst e9_z; (try k_sweep)) | walk1)) | (leave1; walk_say "STEP leave1"; (try dsimp only)) | fail "no step"))
  (rename News _ _ _ _ => N9)
  (rename Fr _ _ _ _ => F9)
  (rename Tabs _ _ _ _ _ _ => TB9)
  refine' hret _ _ _ (fun b o hb e => F9.keep b o (by rw [hg']; exact hideAll_get _ e hb)) ⟨tabs_since TB9 N9 (by k_mem) (by k_mem) (by k_mem) (by k_mem) (by assumption) (by assumption), thing_new TB9 N9 hgg (by k_mem) (by k_mem) (by k_mem) (by k_mem) (by assumption) (by assumption) ?w⟩
  case w =>
    rw [hR, hG, hBl]
    have e1 : loI R G Bl = lo := hlo.out
    have e2 : hiI R G Bl = hi := hhi.out
    have e3 : nearI R G Bl = near := by unfold nearI; rw [e1, e2]; exact hnear.out
    refine ⟨?_⟩
    unfold rowI
    rw [e1, e2, e3, hmh.out, hmn.out]
    refine' ⟨_, _, _, _, _, _, _, _, ⟨_, _, ?m1⟩, ⟨_, _, ?m2, ?hints⟩, ⟨_, ?m3⟩, ⟨_, _, _, _, _, _, ?m4⟩, ⟨_, _, _, ?m5⟩, ⟨_, _, _, ?m6⟩, ⟨_, _, _, ?m7⟩, ⟨_, _, _, ?m8⟩, ⟨_, _, _, ?m9⟩⟩
    case m1 => k_mem
    case m2 => k_mem
    case m3 => k_mem
    case m4 => k_mem
    case m5 => k_mem
    case m6 => k_mem
    case m7 => k_mem
    case m8 => k_mem
    case m9 => k_mem
    case hints =>
      simp only [Array.toList_append]
      exact ((((IntsAre.cons _ _ .nil).append (by assumption)).append (by assumption)).append (.cons _ _ (.cons _ _ .nil))).append (by assumption)
end Mine
end

section
open PySem PySem.W PySem.Calls PySem.Spec PyProof.Rows
set_option maxRecDepth 100000
set_option maxHeartbeats 8000000
namespace Mine
/-- behind a turn: the iterator stands as it stood -/
noncomputable def FsPost (h₀ : Heap) (L : Addr) (s : Shared) (I : Addr) (it : Obj) (J : (Str → Option Value) → List (Addr × Obj) → Prop) (Q : Flow → Shared → Prop) (f : Flow) (s₃ : Shared) : Prop :=
  match f with
  | .next | .cont => ∃ h' tk m' news', s₃ = { s with heap := h', toks := tk } ∧ Fr h₀ L h' m' ∧ News h₀ L h' ((I, it) :: news') ∧ (∀ p ∈ news', p.1 ≠ I) ∧ J m' news'
  | .brk => Q .next s₃
  | .ret v => Q (.ret v) s₃
section
variable {prog : Program} {w : World} {A : Around} {E : Value → Shared → Prop} {Q : Flow → Shared → Prop} {s : Shared} {env : Env} {h₀ : Heap} {L : Addr}
theorem letOwned_other {M : Model} {Q : Unit → Shared → Prop} {target : PySem.Expr} {I : Addr} {v : Value} {o : Obj} {n : String} (ho : s.heap.get? I = some o) (hc : o.cls = .type n) (hn : ["enumerate", "zip", "dict_itemiterator", "dict_reverseitemiterator", "odict_iterator", "itertools.zip_longest", "itertools.pairwise"].contains n = false) (h : Q () s) :
    wpAny M A (letOwnedTupleGo target (.ref I) v) Q E s := by
  unfold letOwnedTupleGo
  split
  · split
    · rename_i e
      cases e
      refine wpAny_bind (wpAny_load ho ?_)
      rw [hc]
      split
      · rename_i e1 e2
        cases e1
        rw [hn, Bool.false_and]
        exact wpAny_pure h
      · exact wpAny_pure h
    · exact wpAny_pure h
  · split
    · rename_i e
      cases e
      refine wpAny_bind (wpAny_load ho ?_)
      rw [hc]
      split
      · rename_i e1 e2
        cases e1
        rw [hn, Bool.false_and]
        exact wpAny_pure h
      · exact wpAny_pure h
    · exact wpAny_pure h
  · exact wpAny_pure h
theorem for_list {target : PySem.Expr} {body : List Stmt} {l : Addr} {vs : Array Value} {m₀ : Str → Option Value} {news₀ : List (Addr × Obj)} (J : Nat → (Str → Option Value) → List (Addr × Obj) → Prop)
    (hh : A.handled = none) (hl : h₀.IsList l vs) (F : Fr h₀ L s.heap m₀) (N : News h₀ L s.heap news₀) (h0 : J 0 m₀ news₀)
    (turn : ∀ (i : Nat) (v : Value) (m : Str → Option Value) (news : List (Addr × Obj)) (it : Obj) (I : Addr) (h : Heap) (tk : Nat), vs[i]? = some v → J i m news → Fr h₀ L h m → News h₀ L h ((I, it) :: news) → (∀ p ∈ news, p.1 ≠ I) →
      wpAny (model prog w) A (assign target env v) (fun _ s₂ => wpAny (model prog w) A (execs body env) (FsPost h₀ L s I it (J (i + 1)) Q) E s₂) E { s with heap := h, toks := tk })
    (fin : ∀ (m : Str → Option Value) (news : List (Addr × Obj)) (h : Heap) (tk : Nat), J vs.size m news → Fr h₀ L h m → News h₀ L h news → Q .next { s with heap := h, toks := tk })
    (hE : PassesOwn (model prog w) A env E := by passes_own) :
    wpAny (model prog w) A (pyIter (.ref l)) (fun it s₂ => codeAny (model prog w) A (.forLoop target it body [] env) (fun r s' => match r with | .ok f => Q f s' | .error e => cameBackBy (model prog w) A env E e s') s₂) E s := by
  have hls : s.heap.IsList l vs := hl.at fun o e => F.keep l o e
  obtain ⟨ol, hol, hol2⟩ := id hl
  have hlt : l < h₀.objs.size := Heap.lt_size hol
  have hne : l ≠ s.heap.objs.size := Nat.ne_of_lt (Nat.lt_trans (Nat.lt_of_lt_of_le hlt F.above) F.ns.lt)
  refine wpAny_pyIter_list hls ?_
  have W := Walks.list (prog := prog) (w := w) hh s.heap.objs.size l hne vs
  have hLI : L ≠ s.heap.objs.size := Nat.ne_of_lt F.ns.lt
  have hIn : h₀.get? s.heap.objs.size = none := by
    cases e : h₀.get? s.heap.objs.size with
    | none => rfl
    | some o => exact absurd (Heap.lt_size (F.keep _ _ e)) (Nat.lt_irrefl _)
  refine codeAny_forLoop_any
    (fun k s' => ∃ h' tk m' news' i it, s' = { s with heap := h', toks := tk } ∧ h'.IsListIter s.heap.objs.size l i ∧ Fr h₀ L h' m' ∧ News h₀ L h' ((s.heap.objs.size, it) :: news') ∧ (∀ p ∈ news', p.1 ≠ s.heap.objs.size) ∧ J i m' news' ∧ i ≤ vs.size ∧ k = vs.size + 1 - i) ?_ (vs.size + 1)
    ⟨_, s.toks, m₀, news₀, 0, _, rfl, ⟨_, Heap.get?_push_size _ rfl, rfl, rfl⟩, F.push _, News.push F N _, (fun p hp e => absurd (Heap.lt_size (N p hp).1) (e ▸ Nat.lt_irrefl _)), h0, Nat.zero_le _, rfl⟩
  rintro k s' ⟨H, tk, m', news', i, it, rfl, hit, F', N', hof, hJ, hi, rfl⟩
  have hlH : H.IsList l vs := hl.at fun o e => F'.keep l o e
  by_cases hlt' : i < vs.size
  · refine W.item i _ _ _ hlt' ⟨hit, hlH⟩ fun v h₁ tk₁ hv hst hk => ?_
    obtain ⟨hit₁, hl₁⟩ := hst
    obtain ⟨o₁, ho₁, hc₁, hd₁⟩ := id hit₁
    have old : ∀ b o, H.get? b = some o → b ≠ s.heap.objs.size → h₁.get? b = some o := fun b o e hb => hk b o (fun q => hb (List.mem_singleton.mp q)) e
    have F₁ : Fr h₀ L h₁ m' := by
      obtain ⟨oL, es, ep, hL, r⟩ := F'.ns
      exact ⟨⟨oL, es, ep, old _ _ hL hLI, r⟩, fun b o e => old b o (F'.keep b o e) (fun q => by rw [q, hIn] at e; cases e), F'.above⟩
    have N₁ : News h₀ L h₁ ((s.heap.objs.size, o₁) :: news') := fun p hp => by
      rcases List.mem_cons.mp hp with rfl | hp
      · exact ⟨ho₁, Ne.symm hLI, hIn⟩
      · have := N' p (.tail _ hp)
        exact ⟨old _ _ this.1 (hof p hp), this.2⟩
    refine letOwned_other ho₁ hc₁ (by decide) ?_
    refine wpAny_passesOwn hE ?_
    refine wpAny_mono (turn i v m' news' o₁ s.heap.objs.size h₁ tk₁ (by simpa using hv) hJ F₁ N₁ hof) (fun _ s₂ hb => ?_) fun _ _ e => e
    refine wpAny_mono (wpAny_passesOwn hE hb) (fun f s₃ p => ?_) fun _ _ e => e
    have key : FsPost h₀ L s s.heap.objs.size o₁ (J (i + 1)) Q .next s₃ → ∃ mm, mm < vs.size + 1 - i ∧ ∃ h' tk m' news' i it, s₃ = { s with heap := h', toks := tk } ∧ h'.IsListIter s.heap.objs.size l i ∧ Fr h₀ L h' m' ∧ News h₀ L h' ((s.heap.objs.size, it) :: news') ∧ (∀ p ∈ news', p.1 ≠ s.heap.objs.size) ∧ J i m' news' ∧ i ≤ vs.size ∧ mm = vs.size + 1 - i := by
      rintro ⟨h', tk', m'', news'', e, F'', N'', hof'', hJ''⟩
      exact ⟨vs.size + 1 - (i + 1), by omega, h', tk', m'', news'', i + 1, o₁, e, ⟨o₁, (N'' _ (.head _)).1, hc₁, hd₁⟩, F'', N'', hof'', hJ'', hlt', rfl⟩
    cases f with
    | ret v => exact p
    | brk => exact p
    | next => exact key p
    | cont => exact key p
  · have hin : i = vs.size := by omega
    subst hin
    refine W.done _ _ _ ⟨hit, hlH⟩ fun h₁ tk₁ hk => wpAny_execs_nil ?_
    have old : ∀ b o, H.get? b = some o → b ≠ s.heap.objs.size → h₁.get? b = some o := fun b o e hb => hk b o (fun q => hb (List.mem_singleton.mp q)) e
    have F₁ : Fr h₀ L h₁ m' := by
      obtain ⟨oL, es, ep, hL, r⟩ := F'.ns
      exact ⟨⟨oL, es, ep, old _ _ hL hLI, r⟩, fun b o e => old b o (F'.keep b o e) (fun q => by rw [q, hIn] at e; cases e), F'.above⟩
    exact fin m' news' h₁ tk₁ hJ F₁ fun p hp => by
      have := N' p (.tail _ hp)
      exact ⟨old _ _ this.1 (hof p hp), this.2⟩
theorem for_tuple {target : PySem.Expr} {body : List Stmt} {l : Addr} {vs : Array Value} {m₀ : Str → Option Value} {news₀ : List (Addr × Obj)} (J : Nat → (Str → Option Value) → List (Addr × Obj) → Prop)
    (hh : A.handled = none) (hl : h₀.IsTuple l vs) (F : Fr h₀ L s.heap m₀) (N : News h₀ L s.heap news₀) (h0 : J 0 m₀ news₀)
    (turn : ∀ (i : Nat) (v : Value) (m : Str → Option Value) (news : List (Addr × Obj)) (it : Obj) (I : Addr) (h : Heap) (tk : Nat), vs[i]? = some v → J i m news → Fr h₀ L h m → News h₀ L h ((I, it) :: news) → (∀ p ∈ news, p.1 ≠ I) →
      wpAny (model prog w) A (assign target env v) (fun _ s₂ => wpAny (model prog w) A (execs body env) (FsPost h₀ L s I it (J (i + 1)) Q) E s₂) E { s with heap := h, toks := tk })
    (fin : ∀ (m : Str → Option Value) (news : List (Addr × Obj)) (h : Heap) (tk : Nat), J vs.size m news → Fr h₀ L h m → News h₀ L h news → Q .next { s with heap := h, toks := tk })
    (hE : PassesOwn (model prog w) A env E := by passes_own) :
    wpAny (model prog w) A (pyIter (.ref l)) (fun it s₂ => codeAny (model prog w) A (.forLoop target it body [] env) (fun r s' => match r with | .ok f => Q f s' | .error e => cameBackBy (model prog w) A env E e s') s₂) E s := by
  have hls : s.heap.IsTuple l vs := hl.at fun o e => F.keep l o e
  obtain ⟨ol, hol, hol2⟩ := id hl
  have hlt : l < h₀.objs.size := Heap.lt_size hol
  have hne : l ≠ s.heap.objs.size := Nat.ne_of_lt (Nat.lt_trans (Nat.lt_of_lt_of_le hlt F.above) F.ns.lt)
  refine wpAny_pyIter_tuple hls ?_
  have W := Walks.tuple (prog := prog) (w := w) hh s.heap.objs.size l hne vs
  have hLI : L ≠ s.heap.objs.size := Nat.ne_of_lt F.ns.lt
  have hIn : h₀.get? s.heap.objs.size = none := by
    cases e : h₀.get? s.heap.objs.size with
    | none => rfl
    | some o => exact absurd (Heap.lt_size (F.keep _ _ e)) (Nat.lt_irrefl _)
  refine codeAny_forLoop_any
    (fun k s' => ∃ h' tk m' news' i it, s' = { s with heap := h', toks := tk } ∧ h'.IsTupleIter s.heap.objs.size l i ∧ Fr h₀ L h' m' ∧ News h₀ L h' ((s.heap.objs.size, it) :: news') ∧ (∀ p ∈ news', p.1 ≠ s.heap.objs.size) ∧ J i m' news' ∧ i ≤ vs.size ∧ k = vs.size + 1 - i) ?_ (vs.size + 1)
    ⟨_, s.toks, m₀, news₀, 0, _, rfl, ⟨_, Heap.get?_push_size _ rfl, rfl, rfl⟩, F.push _, News.push F N _, (fun p hp e => absurd (Heap.lt_size (N p hp).1) (e ▸ Nat.lt_irrefl _)), h0, Nat.zero_le _, rfl⟩
  rintro k s' ⟨H, tk, m', news', i, it, rfl, hit, F', N', hof, hJ, hi, rfl⟩
  have hlH : H.IsTuple l vs := hl.at fun o e => F'.keep l o e
  by_cases hlt' : i < vs.size
  · refine W.item i _ _ _ hlt' ⟨hit, hlH⟩ fun v h₁ tk₁ hv hst hk => ?_
    obtain ⟨hit₁, hl₁⟩ := hst
    obtain ⟨o₁, ho₁, hc₁, hd₁⟩ := id hit₁
    have old : ∀ b o, H.get? b = some o → b ≠ s.heap.objs.size → h₁.get? b = some o := fun b o e hb => hk b o (fun q => hb (List.mem_singleton.mp q)) e
    have F₁ : Fr h₀ L h₁ m' := by
      obtain ⟨oL, es, ep, hL, r⟩ := F'.ns
      exact ⟨⟨oL, es, ep, old _ _ hL hLI, r⟩, fun b o e => old b o (F'.keep b o e) (fun q => by rw [q, hIn] at e; cases e), F'.above⟩
    have N₁ : News h₀ L h₁ ((s.heap.objs.size, o₁) :: news') := fun p hp => by
      rcases List.mem_cons.mp hp with rfl | hp
      · exact ⟨ho₁, Ne.symm hLI, hIn⟩
      · have := N' p (.tail _ hp)
        exact ⟨old _ _ this.1 (hof p hp), this.2⟩
    refine letOwned_other ho₁ hc₁ (by decide) ?_
    refine wpAny_passesOwn hE ?_
    refine wpAny_mono (turn i v m' news' o₁ s.heap.objs.size h₁ tk₁ (by simpa using hv) hJ F₁ N₁ hof) (fun _ s₂ hb => ?_) fun _ _ e => e
    refine wpAny_mono (wpAny_passesOwn hE hb) (fun f s₃ p => ?_) fun _ _ e => e
    have key : FsPost h₀ L s s.heap.objs.size o₁ (J (i + 1)) Q .next s₃ → ∃ mm, mm < vs.size + 1 - i ∧ ∃ h' tk m' news' i it, s₃ = { s with heap := h', toks := tk } ∧ h'.IsTupleIter s.heap.objs.size l i ∧ Fr h₀ L h' m' ∧ News h₀ L h' ((s.heap.objs.size, it) :: news') ∧ (∀ p ∈ news', p.1 ≠ s.heap.objs.size) ∧ J i m' news' ∧ i ≤ vs.size ∧ mm = vs.size + 1 - i := by
      rintro ⟨h', tk', m'', news'', e, F'', N'', hof'', hJ''⟩
      exact ⟨vs.size + 1 - (i + 1), by omega, h', tk', m'', news'', i + 1, o₁, e, ⟨o₁, (N'' _ (.head _)).1, hc₁, hd₁⟩, F'', N'', hof'', hJ'', hlt', rfl⟩
    cases f with
    | ret v => exact p
    | brk => exact p
    | next => exact key p
    | cont => exact key p
  · have hin : i = vs.size := by omega
    subst hin
    refine W.done _ _ _ ⟨hit, hlH⟩ fun h₁ tk₁ hk => wpAny_execs_nil ?_
    have old : ∀ b o, H.get? b = some o → b ≠ s.heap.objs.size → h₁.get? b = some o := fun b o e hb => hk b o (fun q => hb (List.mem_singleton.mp q)) e
    have F₁ : Fr h₀ L h₁ m' := by
      obtain ⟨oL, es, ep, hL, r⟩ := F'.ns
      exact ⟨⟨oL, es, ep, old _ _ hL hLI, r⟩, fun b o e => old b o (F'.keep b o e) (fun q => by rw [q, hIn] at e; cases e), F'.above⟩
    exact fin m' news' h₁ tk₁ hJ F₁ fun p hp => by
      have := N' p (.tail _ hp)
      exact ⟨old _ _ this.1 (hof p hp), this.2⟩
end
end Mine
end

theorem Mine.fresh31 : True := by
  w_top off
  trivial
section
open PySem PySem.W PySem.Calls PySem.Spec PyProof.Rows
set_option maxRecDepth 100000
set_option maxHeartbeats 8000000
namespace Mine
theorem inst_base {h₀ h : Heap} {L x C dx : Addr} {m : Str → Option Value} {od : Obj} (F : Fr h₀ L h m) (h1 : h₀.get? x = some (instObj C dx)) (h2 : h₀.get? dx = some od) : InstAt h x (instObj C dx) C (some od) := ⟨F.keep _ _ h1, rfl, rfl, F.keep _ _ h2⟩
/-- the keys as they lie: a tuple of pairs of ints -/
noncomputable def PairsAt (h : Heap) (ps : Array Value) (keys : List (Int × Int)) : Prop := ps.size = keys.length ∧ ∀ (i : Nat) (k d : Int), keys[i]? = some (k, d) → ∃ P t1 t2 c, ps[i]? = some (.ref P) ∧ h.get? P = some (tupO #[.int k t1, .int d t2] c)
noncomputable def cmpK : List (Int × Int) → List Int → List Int → Int
  | [], _, _ => 0
  | (k, d) :: r, x, y => if x.getD k.toNat 0 < y.getD k.toNat 0 then -d else if y.getD k.toNat 0 < x.getD k.toNat 0 then d else cmpK r x y
noncomputable def cmM (m₀ u : Str → Option Value) : Str → Option Value := fun y => if y = Str.ofString "index" then u y else if y = Str.ofString "direction" then u y else if y = Str.ofString "l" then u y else if y = Str.ofString "r" then u y else m₀ y
theorem cmM_of {m₀ m' : Str → Option Value} (h : ∀ y, y ≠ Str.ofString "index" → y ≠ Str.ofString "direction" → y ≠ Str.ofString "l" → y ≠ Str.ofString "r" → m' y = m₀ y) : m' = cmM m₀ m' := by
  funext y
  unfold cmM
  split
  · rfl
  · split
    · rfl
    · split
      · rfl
      · split
        · rfl
        · exact h y (by assumption) (by assumption) (by assumption) (by assumption)
section
variable {prog : Program} {w : World} {A : Around} {E : Value → Shared → Prop} {Q : Flow → Shared → Prop} {s : Shared} {env : Env} {h₀ : Heap} {L : Addr}
theorem cmp_loop {target : PySem.Expr} {body : List Stmt} {l : Addr} {vs : Array Value} {m₀ : Str → Option Value} (P : Nat → Prop)
    (hh : A.handled = none) (hl : h₀.IsTuple l vs) (F : Fr h₀ L s.heap m₀) (N : News h₀ L s.heap []) (h0 : P 0)
    (turn : ∀ (i : Nat) (v : Value) (u : Str → Option Value) (it : Obj) (I : Addr) (h : Heap) (tk : Nat), vs[i]? = some v → P i → Fr h₀ L h (cmM m₀ u) → News h₀ L h [(I, it)] →
      wpAny (model prog w) A (assign target env v) (fun _ s₂ => wpAny (model prog w) A (execs body env) (FsPost h₀ L s I it (fun m news => news = [] ∧ (∀ y, y ≠ Str.ofString "index" → y ≠ Str.ofString "direction" → y ≠ Str.ofString "l" → y ≠ Str.ofString "r" → m y = m₀ y) ∧ P (i + 1)) Q) E s₂) E { s with heap := h, toks := tk })
    (fin : ∀ (u : Str → Option Value) (h : Heap) (tk : Nat), P vs.size → Fr h₀ L h (cmM m₀ u) → News h₀ L h [] → Q .next { s with heap := h, toks := tk })
    (hE : PassesOwn (model prog w) A env E := by passes_own) :
    wpAny (model prog w) A (pyIter (.ref l)) (fun it s₂ => codeAny (model prog w) A (.forLoop target it body [] env) (fun r s' => match r with | .ok f => Q f s' | .error e => cameBackBy (model prog w) A env E e s') s₂) E s := by
  refine for_tuple (fun i m news => news = [] ∧ (∀ y, y ≠ Str.ofString "index" → y ≠ Str.ofString "direction" → y ≠ Str.ofString "l" → y ≠ Str.ofString "r" → m y = m₀ y) ∧ P i) hh hl F N ⟨rfl, fun _ _ _ _ _ => rfl, h0⟩ ?_ ?_ hE
  · rintro i v m news it I h tk hv ⟨rfl, hm, hP⟩ F' N' _
    rw [cmM_of hm] at F'
    exact turn i v m it I h tk hv hP F' N'
  · rintro m news h tk ⟨rfl, hm, hP⟩ F' N'
    rw [cmM_of hm] at F'
    exact fin m h tk hP F' N'
end
local macro_rules | `(tactic| k_inst) => `(tactic| exact inst_base (by k_asm) (by assumption) (by assumption))
theorem cmpK_drop {keys : List (Int × Int)} {i : Nat} {k d : Int} {x y : List Int} (h : keys[i]? = some (k, d)) : cmpK (keys.drop i) x y = if x.getD k.toNat 0 < y.getD k.toNat 0 then -d else if y.getD k.toNat 0 < x.getD k.toNat 0 then d else cmpK (keys.drop (i + 1)) x y := by
  obtain ⟨hlt, e⟩ := List.getElem?_eq_some_iff.mp h
  rw [List.drop_eq_getElem_cons hlt, e]
  rfl
theorem d_cmp {w : World} {J dx Tp l r : Addr} {s : Shared} {n cl cr : Nat} {ek : DictEntry} {ps vl vr : Array Value} {keys : List (Int × Int)} {xl xr : List Int} {tt : Tok} {hsh : Int}
    (hJ : s.heap.get? J = some (instObj 38 dx)) (hdx : s.heap.get? dx = some (dictOf [⟨hsh, .str (Str.ofString "comp_select_list") tt, .ref Tp⟩] n)) (hT : s.heap.IsTuple Tp ps) (hP : PairsAt s.heap ps keys)
    (hl : s.heap.get? l = some (W.listOf vl cl)) (hr : s.heap.get? r = some (W.listOf vr cr)) (il : IntsAre vl.toList xl) (ir : IntsAre vr.toList xr) (hxl : xl.length = 33) (hxr : xr.length = 33) (hkk : ∀ q ∈ keys, 0 ≤ q.1 ∧ q.1 < 33) :
    Does w 3 35 [.ref J, .ref l, .ref r] s (fun v h => ∃ t, v = .int (cmpK keys xl xr) t) := by
  intro p loose mean mg mb dp un gd cn cs fa ccd cl outer A₀ base h₀ L m Q E B F X T hk hd hu hret
  refine wpAny_call ?_
  k_dflt ((refine' enterP ?k1 ?k2 ?k3 ?k5 ?kA ?kF ?kK ?k6 ?k7 ?k8 ?k9 ?kB ?_ ?c2 ?c3 ?c4 ?c5; (case kA => exact rfl); (case kF => exact rfl); (case kK => assumption); (case k1 => k_asm); (case k2 => k_asm); (case k3 => k_asm); (case k5 => k_asm); (case k6 => k_is); (case k7 => k_is); (case k8 => ktr_room); (case k9 => exact BindsTo.of_eq rfl); (case c5 => decide); (case kB => exact locs rfl); (case c2 => exact rfl); (case c3 => exact rfl); (case c4 => exact rfl); k_whole; intro Lq_z hq_z Fq_z Nq_z Bq_z Xq_z Tq_z; (try dsimp only); (try k_lift Bq_z); (try k_fold)))
  (repeat' (first | (k_unfold; (try dsimp only)) | (k_end; kc_close) | (first | ((with_reducible show wpAny _ _ (eval (PySem.Expr.Name _ _) _) _ _ _); k_dflt (refine' nameX_L ?F ?v ?_ ?a ?b (by decide); (case F => k_asm); (case v => exact Eq.refl (some _)); (case a => exact Eq.refl ScopeKind.function); (case b => exact Eq.refl (some NameKind.local)); k_whole)) | ((with_reducible show wpAny _ _ (eval (PySem.Expr.BinOp (PySem.Expr.Name _ _) _ (PySem.Expr.Name _ _) _) _) _ _ _); k_dflt (refine' bin_nn ?F ?v ?v2 ?_ ?a ?b ?b2 (by decide) (by decide); (case F => k_asm); (case v => exact Eq.refl (some _)); (case a => exact Eq.refl ScopeKind.function); (case b => exact Eq.refl (some NameKind.local)); (case v2 => exact Eq.refl (some _)); (case b2 => exact Eq.refl (some NameKind.local)); k_whole)) | ((with_reducible show wpAny _ _ (eval (PySem.Expr.BinOp (PySem.Expr.Name _ _) _ _ _) _) _ _ _); k_dflt (refine' bin_n ?F ?v ?_ ?a ?b (by decide); (case F => k_asm); (case v => exact Eq.refl (some _)); (case a => exact Eq.refl ScopeKind.function); (case b => exact Eq.refl (some NameKind.local)); k_whole)) | ((with_reducible show wpAny _ _ (execs (Stmt.Assign [PySem.Expr.Name _ _] _ _ :: _) _) _ _ _); k_dflt (refine' asg ?_; k_whole)) | ((with_reducible show wpAny _ _ (storeName _ _ _) _ _ _); k_dflt (refine' st_tk ?F ?N ?_ ?a ?b; (case F => k_asm); (case N => k_asm); (case a => exact Eq.refl ScopeKind.function); (case b => exact Eq.refl (some NameKind.local)); k_whole); intro h_z tk_z F_z N_z; (try k_sweep)) | ((with_reducible show wpAny _ _ (spliced (backTo _ (starEach (PySem.Expr.Name _ _ :: _) _))) _ _ _); k_dflt (refine' sp_n ?F ?v ?_ ?a ?b (by decide); (case F => k_asm); (case v => exact Eq.refl (some _)); (case a => exact Eq.refl ScopeKind.function); (case b => exact Eq.refl (some NameKind.local)); k_whole)) | ((with_reducible show wpAny _ _ (spliced (backTo _ (starEach (PySem.Expr.Constant (PySem.Const.int _) _ _ :: _) _))) _ _ _); k_dflt (refine' sp_c ?_; k_whole)) | ((with_reducible show wpAny _ _ (exec (Stmt.For _ _ _ _ _) _) _ _ _); k_dflt (refine wpAny_For ?_)) | ((with_reducible show wpAny _ _ (subscriptTail _ _ (Value.ref _) (Value.int _ _)) _ _ _); k_dflt (refine' item_base ?k1 ?k2 ?k3 ?k4 ?k5 ?k6 ?_; (case k1 => k_asm); (case k2 => assumption); (case k3 => assumption); (case k4 => omega); (case k5 => omega); (case k6 => omega); k_whole); intro tq_z) | walk1) | (dsimp only; (first | ((with_reducible show wpAny _ _ (eval (PySem.Expr.Name _ _) _) _ _ _); k_dflt (refine' nameX_L ?F ?v ?_ ?a ?b (by decide); (case F => k_asm); (case v => exact Eq.refl (some _)); (case a => exact Eq.refl ScopeKind.function); (case b => exact Eq.refl (some NameKind.local)); k_whole)) | ((with_reducible show wpAny _ _ (eval (PySem.Expr.BinOp (PySem.Expr.Name _ _) _ (PySem.Expr.Name _ _) _) _) _ _ _); k_dflt (refine' bin_nn ?F ?v ?v2 ?_ ?a ?b ?b2 (by decide) (by decide); (case F => k_asm); (case v => exact Eq.refl (some _)); (case a => exact Eq.refl ScopeKind.function); (case b => exact Eq.refl (some NameKind.local)); (case v2 => exact Eq.refl (some _)); (case b2 => exact Eq.refl (some NameKind.local)); k_whole)) | ((with_reducible show wpAny _ _ (eval (PySem.Expr.BinOp (PySem.Expr.Name _ _) _ _ _) _) _ _ _); k_dflt (refine' bin_n ?F ?v ?_ ?a ?b (by decide); (case F => k_asm); (case v => exact Eq.refl (some _)); (case a => exact Eq.refl ScopeKind.function); (case b => exact Eq.refl (some NameKind.local)); k_whole)) | ((with_reducible show wpAny _ _ (execs (Stmt.Assign [PySem.Expr.Name _ _] _ _ :: _) _) _ _ _); k_dflt (refine' asg ?_; k_whole)) | ((with_reducible show wpAny _ _ (storeName _ _ _) _ _ _); k_dflt (refine' st_tk ?F ?N ?_ ?a ?b; (case F => k_asm); (case N => k_asm); (case a => exact Eq.refl ScopeKind.function); (case b => exact Eq.refl (some NameKind.local)); k_whole); intro h_z tk_z F_z N_z; (try k_sweep)) | ((with_reducible show wpAny _ _ (spliced (backTo _ (starEach (PySem.Expr.Name _ _ :: _) _))) _ _ _); k_dflt (refine' sp_n ?F ?v ?_ ?a ?b (by decide); (case F => k_asm); (case v => exact Eq.refl (some _)); (case a => exact Eq.refl ScopeKind.function); (case b => exact Eq.refl (some NameKind.local)); k_whole)) | ((with_reducible show wpAny _ _ (spliced (backTo _ (starEach (PySem.Expr.Constant (PySem.Const.int _) _ _ :: _) _))) _ _ _); k_dflt (refine' sp_c ?_; k_whole)) | ((with_reducible show wpAny _ _ (exec (Stmt.For _ _ _ _ _) _) _ _ _); k_dflt (refine wpAny_For ?_)) | ((with_reducible show wpAny _ _ (subscriptTail _ _ (Value.ref _) (Value.int _ _)) _ _ _); k_dflt (refine' item_base ?k1 ?k2 ?k3 ?k4 ?k5 ?k6 ?_; (case k1 => k_asm); (case k2 => assumption); (case k3 => assumption); (case k4 => omega); (case k5 => omega); (case k6 => omega); k_whole); intro tq_z) | walk1)) | (leave1; walk_say "STEP leave1"; (try dsimp only)) | fail "no step"))
  (rename News _ _ _ _ => NL)
  (rename Fr _ _ _ _ => FL)
  refine cmp_loop (fun i => cmpK keys xl xr = cmpK (keys.drop i) xl xr) rfl hT FL NL rfl ?turn ?fin
  case turn =>
    intro i v u it I h9 tk9 hv hc F9 N9
    clear NL FL
    have hi : i < keys.length := by
      have := (Array.getElem?_eq_some_iff.mp hv).1
      rw [hP.1] at this; exact this
    obtain ⟨⟨k, d⟩, hkd⟩ : ∃ q, keys[i]? = some q := ⟨_, List.getElem?_eq_getElem hi⟩
    obtain ⟨P, u1, u2, c9, hp1, hp2⟩ := hP.2 i k d hkd
    rw [hp1] at hv
    cases hv
    have hkb := hkk (k, d) (List.mem_of_getElem? hkd)
    dsimp only at hkb
    have hTP : IsTup s.heap P #[.int k u1, .int d u2] := ⟨_, hp2, rfl, c9, rfl⟩
    have hcd := cmpK_drop (x := xl) (y := xr) hkd
    unfold cmM at F9
    (repeat' (first | (k_unfold; (try dsimp only)) | (k_end; kc_close) | (first | ((with_reducible show wpAny _ _ (eval (PySem.Expr.Name _ _) _) _ _ _); k_dflt (refine' nameX_L ?F ?v ?_ ?a ?b (by decide); (case F => k_asm); (case v => exact Eq.refl (some _)); (case a => exact Eq.refl ScopeKind.function); (case b => exact Eq.refl (some NameKind.local)); k_whole)) | ((with_reducible show wpAny _ _ (eval (PySem.Expr.BinOp (PySem.Expr.Name _ _) _ (PySem.Expr.Name _ _) _) _) _ _ _); k_dflt (refine' bin_nn ?F ?v ?v2 ?_ ?a ?b ?b2 (by decide) (by decide); (case F => k_asm); (case v => exact Eq.refl (some _)); (case a => exact Eq.refl ScopeKind.function); (case b => exact Eq.refl (some NameKind.local)); (case v2 => exact Eq.refl (some _)); (case b2 => exact Eq.refl (some NameKind.local)); k_whole)) | ((with_reducible show wpAny _ _ (eval (PySem.Expr.BinOp (PySem.Expr.Name _ _) _ _ _) _) _ _ _); k_dflt (refine' bin_n ?F ?v ?_ ?a ?b (by decide); (case F => k_asm); (case v => exact Eq.refl (some _)); (case a => exact Eq.refl ScopeKind.function); (case b => exact Eq.refl (some NameKind.local)); k_whole)) | ((with_reducible show wpAny _ _ (execs (Stmt.Assign [PySem.Expr.Name _ _] _ _ :: _) _) _ _ _); k_dflt (refine' asg ?_; k_whole)) | ((with_reducible show wpAny _ _ (storeName _ _ _) _ _ _); k_dflt (refine' st_tk ?F ?N ?_ ?a ?b; (case F => k_asm); (case N => k_asm); (case a => exact Eq.refl ScopeKind.function); (case b => exact Eq.refl (some NameKind.local)); k_whole); intro h_z tk_z F_z N_z; (try k_sweep)) | ((with_reducible show wpAny _ _ (spliced (backTo _ (starEach (PySem.Expr.Name _ _ :: _) _))) _ _ _); k_dflt (refine' sp_n ?F ?v ?_ ?a ?b (by decide); (case F => k_asm); (case v => exact Eq.refl (some _)); (case a => exact Eq.refl ScopeKind.function); (case b => exact Eq.refl (some NameKind.local)); k_whole)) | ((with_reducible show wpAny _ _ (spliced (backTo _ (starEach (PySem.Expr.Constant (PySem.Const.int _) _ _ :: _) _))) _ _ _); k_dflt (refine' sp_c ?_; k_whole)) | ((with_reducible show wpAny _ _ (exec (Stmt.For _ _ _ _ _) _) _ _ _); k_dflt (refine wpAny_For ?_)) | ((with_reducible show wpAny _ _ (subscriptTail _ _ (Value.ref _) (Value.int _ _)) _ _ _); k_dflt (refine' item_base ?k1 ?k2 ?k3 ?k4 ?k5 ?k6 ?_; (case k1 => k_asm); (case k2 => assumption); (case k3 => assumption); (case k4 => omega); (case k5 => omega); (case k6 => omega); k_whole); intro tq_z) | walk1) | (dsimp only; (first | ((with_reducible show wpAny _ _ (eval (PySem.Expr.Name _ _) _) _ _ _); k_dflt (refine' nameX_L ?F ?v ?_ ?a ?b (by decide); (case F => k_asm); (case v => exact Eq.refl (some _)); (case a => exact Eq.refl ScopeKind.function); (case b => exact Eq.refl (some NameKind.local)); k_whole)) | ((with_reducible show wpAny _ _ (eval (PySem.Expr.BinOp (PySem.Expr.Name _ _) _ (PySem.Expr.Name _ _) _) _) _ _ _); k_dflt (refine' bin_nn ?F ?v ?v2 ?_ ?a ?b ?b2 (by decide) (by decide); (case F => k_asm); (case v => exact Eq.refl (some _)); (case a => exact Eq.refl ScopeKind.function); (case b => exact Eq.refl (some NameKind.local)); (case v2 => exact Eq.refl (some _)); (case b2 => exact Eq.refl (some NameKind.local)); k_whole)) | ((with_reducible show wpAny _ _ (eval (PySem.Expr.BinOp (PySem.Expr.Name _ _) _ _ _) _) _ _ _); k_dflt (refine' bin_n ?F ?v ?_ ?a ?b (by decide); (case F => k_asm); (case v => exact Eq.refl (some _)); (case a => exact Eq.refl ScopeKind.function); (case b => exact Eq.refl (some NameKind.local)); k_whole)) | ((with_reducible show wpAny _ _ (execs (Stmt.Assign [PySem.Expr.Name _ _] _ _ :: _) _) _ _ _); k_dflt (refine' asg ?_; k_whole)) | ((with_reducible show wpAny _ _ (storeName _ _ _) _ _ _); k_dflt (refine' st_tk ?F ?N ?_ ?a ?b; (case F => k_asm); (case N => k_asm); (case a => exact Eq.refl ScopeKind.function); (case b => exact Eq.refl (some NameKind.local)); k_whole); intro h_z tk_z F_z N_z; (try k_sweep)) | ((with_reducible show wpAny _ _ (spliced (backTo _ (starEach (PySem.Expr.Name _ _ :: _) _))) _ _ _); k_dflt (refine' sp_n ?F ?v ?_ ?a ?b (by decide); (case F => k_asm); (case v => exact Eq.refl (some _)); (case a => exact Eq.refl ScopeKind.function); (case b => exact Eq.refl (some NameKind.local)); k_whole)) | ((with_reducible show wpAny _ _ (spliced (backTo _ (starEach (PySem.Expr.Constant (PySem.Const.int _) _ _ :: _) _))) _ _ _); k_dflt (refine' sp_c ?_; k_whole)) | ((with_reducible show wpAny _ _ (exec (Stmt.For _ _ _ _ _) _) _ _ _); k_dflt (refine wpAny_For ?_)) | ((with_reducible show wpAny _ _ (subscriptTail _ _ (Value.ref _) (Value.int _ _)) _ _ _); k_dflt (refine' item_base ?k1 ?k2 ?k3 ?k4 ?k5 ?k6 ?_; (case k1 => k_asm); (case k2 => assumption); (case k3 => assumption); (case k4 => omega); (case k5 => omega); (case k6 => omega); k_whole); intro tq_z) | walk1)) | (leave1; walk_say "STEP leave1"; (try dsimp only)) | fail "no step"))
    · (rename Fr _ _ _ _ => F8)
      exact hret _ _ _ F8.keep ⟨_, by rw [hc, hcd, if_pos (show xl.getD k.toNat 0 < xr.getD k.toNat 0 from by assumption)]⟩
    · (rename Fr _ _ _ _ => F8)
      exact hret _ _ _ F8.keep ⟨_, by rw [hc, hcd, if_neg (show ¬ xl.getD k.toNat 0 < xr.getD k.toNat 0 from by assumption), if_pos (show xr.getD k.toNat 0 < xl.getD k.toNat 0 from by assumption)]⟩
    · (rename Fr _ _ _ _ => F8)
      (rename News _ _ _ _ => N8)
      refine ⟨_, _, _, [], rfl, F8, fun q hq => N8 q (by rw [List.mem_singleton.mp hq]; k_mem), (fun _ h => nomatch h), rfl, ?_, ?_⟩
      · intro y e1 e2 e3 e4
        simp only [e1, e2, e3, e4, if_false]
      · rw [hc, hcd, if_neg (show ¬ xl.getD k.toNat 0 < xr.getD k.toNat 0 from by assumption), if_neg (show ¬ xr.getD k.toNat 0 < xl.getD k.toNat 0 from by assumption)]
  case fin =>
    intro u h9 tk9 hc F9 N9
    clear NL FL
    unfold cmM at F9
    (repeat' (first | (k_unfold; (try dsimp only)) | (k_end; kc_close) | (first | ((with_reducible show wpAny _ _ (eval (PySem.Expr.Name _ _) _) _ _ _); k_dflt (refine' nameX_L ?F ?v ?_ ?a ?b (by decide); (case F => k_asm); (case v => exact Eq.refl (some _)); (case a => exact Eq.refl ScopeKind.function); (case b => exact Eq.refl (some NameKind.local)); k_whole)) | ((with_reducible show wpAny _ _ (eval (PySem.Expr.BinOp (PySem.Expr.Name _ _) _ (PySem.Expr.Name _ _) _) _) _ _ _); k_dflt (refine' bin_nn ?F ?v ?v2 ?_ ?a ?b ?b2 (by decide) (by decide); (case F => k_asm); (case v => exact Eq.refl (some _)); (case a => exact Eq.refl ScopeKind.function); (case b => exact Eq.refl (some NameKind.local)); (case v2 => exact Eq.refl (some _)); (case b2 => exact Eq.refl (some NameKind.local)); k_whole)) | ((with_reducible show wpAny _ _ (eval (PySem.Expr.BinOp (PySem.Expr.Name _ _) _ _ _) _) _ _ _); k_dflt (refine' bin_n ?F ?v ?_ ?a ?b (by decide); (case F => k_asm); (case v => exact Eq.refl (some _)); (case a => exact Eq.refl ScopeKind.function); (case b => exact Eq.refl (some NameKind.local)); k_whole)) | ((with_reducible show wpAny _ _ (execs (Stmt.Assign [PySem.Expr.Name _ _] _ _ :: _) _) _ _ _); k_dflt (refine' asg ?_; k_whole)) | ((with_reducible show wpAny _ _ (storeName _ _ _) _ _ _); k_dflt (refine' st_tk ?F ?N ?_ ?a ?b; (case F => k_asm); (case N => k_asm); (case a => exact Eq.refl ScopeKind.function); (case b => exact Eq.refl (some NameKind.local)); k_whole); intro h_z tk_z F_z N_z; (try k_sweep)) | ((with_reducible show wpAny _ _ (spliced (backTo _ (starEach (PySem.Expr.Name _ _ :: _) _))) _ _ _); k_dflt (refine' sp_n ?F ?v ?_ ?a ?b (by decide); (case F => k_asm); (case v => exact Eq.refl (some _)); (case a => exact Eq.refl ScopeKind.function); (case b => exact Eq.refl (some NameKind.local)); k_whole)) | ((with_reducible show wpAny _ _ (spliced (backTo _ (starEach (PySem.Expr.Constant (PySem.Const.int _) _ _ :: _) _))) _ _ _); k_dflt (refine' sp_c ?_; k_whole)) | ((with_reducible show wpAny _ _ (exec (Stmt.For _ _ _ _ _) _) _ _ _); k_dflt (refine wpAny_For ?_)) | ((with_reducible show wpAny _ _ (subscriptTail _ _ (Value.ref _) (Value.int _ _)) _ _ _); k_dflt (refine' item_base ?k1 ?k2 ?k3 ?k4 ?k5 ?k6 ?_; (case k1 => k_asm); (case k2 => assumption); (case k3 => assumption); (case k4 => omega); (case k5 => omega); (case k6 => omega); k_whole); intro tq_z) | walk1) | (dsimp only; (first | ((with_reducible show wpAny _ _ (eval (PySem.Expr.Name _ _) _) _ _ _); k_dflt (refine' nameX_L ?F ?v ?_ ?a ?b (by decide); (case F => k_asm); (case v => exact Eq.refl (some _)); (case a => exact Eq.refl ScopeKind.function); (case b => exact Eq.refl (some NameKind.local)); k_whole)) | ((with_reducible show wpAny _ _ (eval (PySem.Expr.BinOp (PySem.Expr.Name _ _) _ (PySem.Expr.Name _ _) _) _) _ _ _); k_dflt (refine' bin_nn ?F ?v ?v2 ?_ ?a ?b ?b2 (by decide) (by decide); (case F => k_asm); (case v => exact Eq.refl (some _)); (case a => exact Eq.refl ScopeKind.function); (case b => exact Eq.refl (some NameKind.local)); (case v2 => exact Eq.refl (some _)); (case b2 => exact Eq.refl (some NameKind.local)); k_whole)) | ((with_reducible show wpAny _ _ (eval (PySem.Expr.BinOp (PySem.Expr.Name _ _) _ _ _) _) _ _ _); k_dflt (refine' bin_n ?F ?v ?_ ?a ?b (by decide); (case F => k_asm); (case v => exact Eq.refl (some _)); (case a => exact Eq.refl ScopeKind.function); (case b => exact Eq.refl (some NameKind.local)); k_whole)) | ((with_reducible show wpAny _ _ (execs (Stmt.Assign [PySem.Expr.Name _ _] _ _ :: _) _) _ _ _); k_dflt (refine' asg ?_; k_whole)) | ((with_reducible show wpAny _ _ (storeName _ _ _) _ _ _); k_dflt (refine' st_tk ?F ?N ?_ ?a ?b; (case F => k_asm); (case N => k_asm); (case a => exact Eq.refl ScopeKind.function); (case b => exact Eq.refl (some NameKind.local)); k_whole); intro h_z tk_z F_z N_z; (try k_sweep)) | ((with_reducible show wpAny _ _ (spliced (backTo _ (starEach (PySem.Expr.Name _ _ :: _) _))) _ _ _); k_dflt (refine' sp_n ?F ?v ?_ ?a ?b (by decide); (case F => k_asm); (case v => exact Eq.refl (some _)); (case a => exact Eq.refl ScopeKind.function); (case b => exact Eq.refl (some NameKind.local)); k_whole)) | ((with_reducible show wpAny _ _ (spliced (backTo _ (starEach (PySem.Expr.Constant (PySem.Const.int _) _ _ :: _) _))) _ _ _); k_dflt (refine' sp_c ?_; k_whole)) | ((with_reducible show wpAny _ _ (exec (Stmt.For _ _ _ _ _) _) _ _ _); k_dflt (refine wpAny_For ?_)) | ((with_reducible show wpAny _ _ (subscriptTail _ _ (Value.ref _) (Value.int _ _)) _ _ _); k_dflt (refine' item_base ?k1 ?k2 ?k3 ?k4 ?k5 ?k6 ?_; (case k1 => k_asm); (case k2 => assumption); (case k3 => assumption); (case k4 => omega); (case k5 => omega); (case k6 => omega); k_whole); intro tq_z) | walk1)) | (leave1; walk_say "STEP leave1"; (try dsimp only)) | fail "no step"))
    (rename Fr _ _ _ _ => F8)
    exact hret _ _ _ F8.keep ⟨_, by rw [hc, hP.1, List.drop_length]; rfl⟩
end Mine
end

theorem Mine.fresh32 : True := by
  w_top off
  trivial
section
open PySem PySem.W PySem.Calls PySem.Spec PyProof.Rows
set_option maxRecDepth 100000
set_option maxHeartbeats 8000000
namespace Mine
/-- the wishes as they lie: a list of lists of two ints -/
noncomputable def WishesAt (h : Heap) (ps : Array Value) (keys : List (Int × Int)) : Prop := ps.size = keys.length ∧ ∀ (i : Nat) (k d : Int), keys[i]? = some (k, d) → ∃ P t1 t2 c, ps[i]? = some (.ref P) ∧ h.get? P = some (W.listOf #[.int k t1, .int d t2] c)
noncomputable def firstK : List (Int × Int) → List Int → Int
  | [], _ => 0
  | (k, d) :: r, x => if x.getD k.toNat 0 ≠ 0 then x.getD k.toNat 0 * d else firstK r x
noncomputable def fiM (m₀ u : Str → Option Value) : Str → Option Value := fun y => if y = Str.ofString "which" then u y else if y = Str.ofString "way" then u y else m₀ y
theorem fiM_of {m₀ m' : Str → Option Value} (h : ∀ y, y ≠ Str.ofString "which" → y ≠ Str.ofString "way" → m' y = m₀ y) : m' = fiM m₀ m' := by
  funext y
  unfold fiM
  split
  · rfl
  · split
    · rfl
    · exact h y (by assumption) (by assumption)
theorem firstK_drop {keys : List (Int × Int)} {i : Nat} {k d : Int} {x : List Int} (h : keys[i]? = some (k, d)) : firstK (keys.drop i) x = if x.getD k.toNat 0 ≠ 0 then x.getD k.toNat 0 * d else firstK (keys.drop (i + 1)) x := by
  obtain ⟨hlt, e⟩ := List.getElem?_eq_some_iff.mp h
  rw [List.drop_eq_getElem_cons hlt, e]
  rfl
section
variable {prog : Program} {w : World} {A : Around} {E : Value → Shared → Prop} {Q : Flow → Shared → Prop} {s : Shared} {env : Env} {h₀ : Heap} {L : Addr}
theorem first_loop {target : PySem.Expr} {body : List Stmt} {l : Addr} {vs : Array Value} {m₀ : Str → Option Value} (P : Nat → Prop)
    (hh : A.handled = none) (hl : h₀.IsList l vs) (F : Fr h₀ L s.heap m₀) (N : News h₀ L s.heap []) (h0 : P 0)
    (turn : ∀ (i : Nat) (v : Value) (u : Str → Option Value) (it : Obj) (I : Addr) (h : Heap) (tk : Nat), vs[i]? = some v → P i → Fr h₀ L h (fiM m₀ u) → News h₀ L h [(I, it)] →
      wpAny (model prog w) A (assign target env v) (fun _ s₂ => wpAny (model prog w) A (execs body env) (FsPost h₀ L s I it (fun m news => news = [] ∧ (∀ y, y ≠ Str.ofString "which" → y ≠ Str.ofString "way" → m y = m₀ y) ∧ P (i + 1)) Q) E s₂) E { s with heap := h, toks := tk })
    (fin : ∀ (u : Str → Option Value) (h : Heap) (tk : Nat), P vs.size → Fr h₀ L h (fiM m₀ u) → News h₀ L h [] → Q .next { s with heap := h, toks := tk })
    (hE : PassesOwn (model prog w) A env E := by passes_own) :
    wpAny (model prog w) A (pyIter (.ref l)) (fun it s₂ => codeAny (model prog w) A (.forLoop target it body [] env) (fun r s' => match r with | .ok f => Q f s' | .error e => cameBackBy (model prog w) A env E e s') s₂) E s := by
  refine for_list (fun i m news => news = [] ∧ (∀ y, y ≠ Str.ofString "which" → y ≠ Str.ofString "way" → m y = m₀ y) ∧ P i) hh hl F N ⟨rfl, fun _ _ _ => rfl, h0⟩ ?_ ?_ hE
  · rintro i v m news it I h tk hv ⟨rfl, hm, hP⟩ F' N' _
    rw [fiM_of hm] at F'
    exact turn i v m it I h tk hv hP F' N'
  · rintro m news h tk ⟨rfl, hm, hP⟩ F' N'
    rw [fiM_of hm] at F'
    exact fin m h tk hP F' N'
end
theorem d_first {w : World} {l r : Addr} {s : Shared} {cl cr : Nat} {ps vl : Array Value} {keys : List (Int × Int)} {xl : List Int}
    (hT : s.heap.IsList r ps) (hP : WishesAt s.heap ps keys) (hl : s.heap.get? l = some (W.listOf vl cl)) (il : IntsAre vl.toList xl) (hxl : xl.length = 5) (hxb : ∀ i : Nat, -1 ≤ xl.getD i 0 ∧ xl.getD i 0 ≤ 1) (hkk : ∀ q ∈ keys, (0 ≤ q.1 ∧ q.1 < 5) ∧ (-1 ≤ q.2 ∧ q.2 ≤ 1)) :
    Does w 3 131 [.ref l, .ref r] s (fun v h => ∃ t, v = .int (firstK keys xl) t) := by
  intro p loose mean mg mb dp un gd cn cs fa ccd cl outer A₀ base h₀ L m Q E B F X T hk hd hu hret
  refine wpAny_call ?_
  k_dflt ((refine' enterP ?k1 ?k2 ?k3 ?k5 ?kA ?kF ?kK ?k6 ?k7 ?k8 ?k9 ?kB ?_ ?c2 ?c3 ?c4 ?c5; (case kA => exact rfl); (case kF => exact rfl); (case kK => assumption); (case k1 => k_asm); (case k2 => k_asm); (case k3 => k_asm); (case k5 => k_asm); (case k6 => k_is); (case k7 => k_is); (case k8 => ktr_room); (case k9 => exact BindsTo.of_eq rfl); (case c5 => decide); (case kB => exact locs rfl); (case c2 => exact rfl); (case c3 => exact rfl); (case c4 => exact rfl); k_whole; intro Lq_z hq_z Fq_z Nq_z Bq_z Xq_z Tq_z; (try dsimp only); (try k_lift Bq_z); (try k_fold)))
  (repeat' (first | (k_unfold; (try dsimp only)) | (k_end; kc_close) | (first | ((with_reducible show wpAny _ _ (eval (PySem.Expr.Name _ _) _) _ _ _); k_dflt (refine' nameX_L ?F ?v ?_ ?a ?b (by decide); (case F => k_asm); (case v => exact Eq.refl (some _)); (case a => exact Eq.refl ScopeKind.function); (case b => exact Eq.refl (some NameKind.local)); k_whole)) | ((with_reducible show wpAny _ _ (eval (PySem.Expr.BinOp (PySem.Expr.Name _ _) _ (PySem.Expr.Name _ _) _) _) _ _ _); k_dflt (refine' bin_nn ?F ?v ?v2 ?_ ?a ?b ?b2 (by decide) (by decide); (case F => k_asm); (case v => exact Eq.refl (some _)); (case a => exact Eq.refl ScopeKind.function); (case b => exact Eq.refl (some NameKind.local)); (case v2 => exact Eq.refl (some _)); (case b2 => exact Eq.refl (some NameKind.local)); k_whole)) | ((with_reducible show wpAny _ _ (eval (PySem.Expr.BinOp (PySem.Expr.Name _ _) _ _ _) _) _ _ _); k_dflt (refine' bin_n ?F ?v ?_ ?a ?b (by decide); (case F => k_asm); (case v => exact Eq.refl (some _)); (case a => exact Eq.refl ScopeKind.function); (case b => exact Eq.refl (some NameKind.local)); k_whole)) | ((with_reducible show wpAny _ _ (execs (Stmt.Assign [PySem.Expr.Name _ _] _ _ :: _) _) _ _ _); k_dflt (refine' asg ?_; k_whole)) | ((with_reducible show wpAny _ _ (storeName _ _ _) _ _ _); k_dflt (refine' st_tk ?F ?N ?_ ?a ?b; (case F => k_asm); (case N => k_asm); (case a => exact Eq.refl ScopeKind.function); (case b => exact Eq.refl (some NameKind.local)); k_whole); intro h_z tk_z F_z N_z; (try k_sweep)) | ((with_reducible show wpAny _ _ (spliced (backTo _ (starEach (PySem.Expr.Name _ _ :: _) _))) _ _ _); k_dflt (refine' sp_n ?F ?v ?_ ?a ?b (by decide); (case F => k_asm); (case v => exact Eq.refl (some _)); (case a => exact Eq.refl ScopeKind.function); (case b => exact Eq.refl (some NameKind.local)); k_whole)) | ((with_reducible show wpAny _ _ (spliced (backTo _ (starEach (PySem.Expr.Constant (PySem.Const.int _) _ _ :: _) _))) _ _ _); k_dflt (refine' sp_c ?_; k_whole)) | ((with_reducible show wpAny _ _ (assign (PySem.Expr.Tuple _ _ _) _ (Value.ref _)) _ _ _); k_dflt (refine' kun_list ?k1 ?k2 (Heap.IsList.at ?k3 (fun o e => Fr.keep ?k7 _ o e)) ?k4 ?k5 ?k6 ?_; (case k1 => k_asm); (case k7 => k_asm); (case k2 => k_asm); (case k3 => assumption); (case k4 => exact rfl); (case k5 => exact rfl); (case k6 => exact rfl); k_whole); intro hq_z Fq_z Nq_z; (try k_sweep)) | ((with_reducible show wpAny _ _ (exec (Stmt.For _ _ _ _ _) _) _ _ _); k_dflt (refine wpAny_For ?_)) | ((with_reducible show wpAny _ _ (subscriptTail _ _ (Value.ref _) (Value.int _ _)) _ _ _); k_dflt (refine' item_base ?k1 ?k2 ?k3 ?k4 ?k5 ?k6 ?_; (case k1 => k_asm); (case k2 => assumption); (case k3 => assumption); (case k4 => omega); (case k5 => omega); (case k6 => omega); k_whole); intro tq_z) | walk1) | (dsimp only; (first | ((with_reducible show wpAny _ _ (eval (PySem.Expr.Name _ _) _) _ _ _); k_dflt (refine' nameX_L ?F ?v ?_ ?a ?b (by decide); (case F => k_asm); (case v => exact Eq.refl (some _)); (case a => exact Eq.refl ScopeKind.function); (case b => exact Eq.refl (some NameKind.local)); k_whole)) | ((with_reducible show wpAny _ _ (eval (PySem.Expr.BinOp (PySem.Expr.Name _ _) _ (PySem.Expr.Name _ _) _) _) _ _ _); k_dflt (refine' bin_nn ?F ?v ?v2 ?_ ?a ?b ?b2 (by decide) (by decide); (case F => k_asm); (case v => exact Eq.refl (some _)); (case a => exact Eq.refl ScopeKind.function); (case b => exact Eq.refl (some NameKind.local)); (case v2 => exact Eq.refl (some _)); (case b2 => exact Eq.refl (some NameKind.local)); k_whole)) | ((with_reducible show wpAny _ _ (eval (PySem.Expr.BinOp (PySem.Expr.Name _ _) _ _ _) _) _ _ _); k_dflt (refine' bin_n ?F ?v ?_ ?a ?b (by decide); (case F => k_asm); (case v => exact Eq.refl (some _)); (case a => exact Eq.refl ScopeKind.function); (case b => exact Eq.refl (some NameKind.local)); k_whole)) | ((with_reducible show wpAny _ _ (execs (Stmt.Assign [PySem.Expr.Name _ _] _ _ :: _) _) _ _ _); k_dflt (refine' asg ?_; k_whole)) | ((with_reducible show wpAny _ _ (storeName _ _ _) _ _ _); k_dflt (refine' st_tk ?F ?N ?_ ?a ?b; (case F => k_asm); (case N => k_asm); (case a => exact Eq.refl ScopeKind.function); (case b => exact Eq.refl (some NameKind.local)); k_whole); intro h_z tk_z F_z N_z; (try k_sweep)) | ((with_reducible show wpAny _ _ (spliced (backTo _ (starEach (PySem.Expr.Name _ _ :: _) _))) _ _ _); k_dflt (refine' sp_n ?F ?v ?_ ?a ?b (by decide); (case F => k_asm); (case v => exact Eq.refl (some _)); (case a => exact Eq.refl ScopeKind.function); (case b => exact Eq.refl (some NameKind.local)); k_whole)) | ((with_reducible show wpAny _ _ (spliced (backTo _ (starEach (PySem.Expr.Constant (PySem.Const.int _) _ _ :: _) _))) _ _ _); k_dflt (refine' sp_c ?_; k_whole)) | ((with_reducible show wpAny _ _ (assign (PySem.Expr.Tuple _ _ _) _ (Value.ref _)) _ _ _); k_dflt (refine' kun_list ?k1 ?k2 (Heap.IsList.at ?k3 (fun o e => Fr.keep ?k7 _ o e)) ?k4 ?k5 ?k6 ?_; (case k1 => k_asm); (case k7 => k_asm); (case k2 => k_asm); (case k3 => assumption); (case k4 => exact rfl); (case k5 => exact rfl); (case k6 => exact rfl); k_whole); intro hq_z Fq_z Nq_z; (try k_sweep)) | ((with_reducible show wpAny _ _ (exec (Stmt.For _ _ _ _ _) _) _ _ _); k_dflt (refine wpAny_For ?_)) | ((with_reducible show wpAny _ _ (subscriptTail _ _ (Value.ref _) (Value.int _ _)) _ _ _); k_dflt (refine' item_base ?k1 ?k2 ?k3 ?k4 ?k5 ?k6 ?_; (case k1 => k_asm); (case k2 => assumption); (case k3 => assumption); (case k4 => omega); (case k5 => omega); (case k6 => omega); k_whole); intro tq_z) | walk1)) | (leave1; walk_say "STEP leave1"; (try dsimp only)) | fail "no step"))
  (rename News _ _ _ _ => NL)
  (rename Fr _ _ _ _ => FL)
  refine first_loop (fun i => firstK keys xl = firstK (keys.drop i) xl) rfl hT FL NL rfl ?turn ?fin
  case turn =>
    intro i v u it I h9 tk9 hv hc F9 N9
    clear NL FL
    have hi : i < keys.length := by
      have := (Array.getElem?_eq_some_iff.mp hv).1
      rw [hP.1] at this; exact this
    obtain ⟨⟨k, d⟩, hkd⟩ : ∃ q, keys[i]? = some q := ⟨_, List.getElem?_eq_getElem hi⟩
    obtain ⟨P, u1, u2, c9, hp1, hp2⟩ := hP.2 i k d hkd
    rw [hp1] at hv
    cases hv
    have hkb := hkk (k, d) (List.mem_of_getElem? hkd)
    dsimp only at hkb
    have hxk := hxb k.toNat
    have hLP : s.heap.IsList P [Value.int k u1, .int d u2].toArray := ⟨_, hp2, rfl, c9, rfl⟩
    have hIP : IntsAre [Value.int k u1, .int d u2] [k, d] := .cons _ _ (.cons _ _ .nil)
    have hcd := firstK_drop (x := xl) hkd
    unfold fiM at F9
    (repeat' (first | (k_unfold; (try dsimp only)) | (k_end; kc_close) | (first | ((with_reducible show wpAny _ _ (eval (PySem.Expr.Name _ _) _) _ _ _); k_dflt (refine' nameX_L ?F ?v ?_ ?a ?b (by decide); (case F => k_asm); (case v => exact Eq.refl (some _)); (case a => exact Eq.refl ScopeKind.function); (case b => exact Eq.refl (some NameKind.local)); k_whole)) | ((with_reducible show wpAny _ _ (eval (PySem.Expr.BinOp (PySem.Expr.Name _ _) _ (PySem.Expr.Name _ _) _) _) _ _ _); k_dflt (refine' bin_nn ?F ?v ?v2 ?_ ?a ?b ?b2 (by decide) (by decide); (case F => k_asm); (case v => exact Eq.refl (some _)); (case a => exact Eq.refl ScopeKind.function); (case b => exact Eq.refl (some NameKind.local)); (case v2 => exact Eq.refl (some _)); (case b2 => exact Eq.refl (some NameKind.local)); k_whole)) | ((with_reducible show wpAny _ _ (eval (PySem.Expr.BinOp (PySem.Expr.Name _ _) _ _ _) _) _ _ _); k_dflt (refine' bin_n ?F ?v ?_ ?a ?b (by decide); (case F => k_asm); (case v => exact Eq.refl (some _)); (case a => exact Eq.refl ScopeKind.function); (case b => exact Eq.refl (some NameKind.local)); k_whole)) | ((with_reducible show wpAny _ _ (execs (Stmt.Assign [PySem.Expr.Name _ _] _ _ :: _) _) _ _ _); k_dflt (refine' asg ?_; k_whole)) | ((with_reducible show wpAny _ _ (storeName _ _ _) _ _ _); k_dflt (refine' st_tk ?F ?N ?_ ?a ?b; (case F => k_asm); (case N => k_asm); (case a => exact Eq.refl ScopeKind.function); (case b => exact Eq.refl (some NameKind.local)); k_whole); intro h_z tk_z F_z N_z; (try k_sweep)) | ((with_reducible show wpAny _ _ (spliced (backTo _ (starEach (PySem.Expr.Name _ _ :: _) _))) _ _ _); k_dflt (refine' sp_n ?F ?v ?_ ?a ?b (by decide); (case F => k_asm); (case v => exact Eq.refl (some _)); (case a => exact Eq.refl ScopeKind.function); (case b => exact Eq.refl (some NameKind.local)); k_whole)) | ((with_reducible show wpAny _ _ (spliced (backTo _ (starEach (PySem.Expr.Constant (PySem.Const.int _) _ _ :: _) _))) _ _ _); k_dflt (refine' sp_c ?_; k_whole)) | ((with_reducible show wpAny _ _ (assign (PySem.Expr.Tuple _ _ _) _ (Value.ref _)) _ _ _); k_dflt (refine' kun_list ?k1 ?k2 (Heap.IsList.at ?k3 (fun o e => Fr.keep ?k7 _ o e)) ?k4 ?k5 ?k6 ?_; (case k1 => k_asm); (case k7 => k_asm); (case k2 => k_asm); (case k3 => assumption); (case k4 => exact rfl); (case k5 => exact rfl); (case k6 => exact rfl); k_whole); intro hq_z Fq_z Nq_z; (try k_sweep)) | ((with_reducible show wpAny _ _ (exec (Stmt.For _ _ _ _ _) _) _ _ _); k_dflt (refine wpAny_For ?_)) | ((with_reducible show wpAny _ _ (subscriptTail _ _ (Value.ref _) (Value.int _ _)) _ _ _); k_dflt (refine' item_base ?k1 ?k2 ?k3 ?k4 ?k5 ?k6 ?_; (case k1 => k_asm); (case k2 => assumption); (case k3 => assumption); (case k4 => omega); (case k5 => omega); (case k6 => omega); k_whole); intro tq_z) | walk1) | (dsimp only; (first | ((with_reducible show wpAny _ _ (eval (PySem.Expr.Name _ _) _) _ _ _); k_dflt (refine' nameX_L ?F ?v ?_ ?a ?b (by decide); (case F => k_asm); (case v => exact Eq.refl (some _)); (case a => exact Eq.refl ScopeKind.function); (case b => exact Eq.refl (some NameKind.local)); k_whole)) | ((with_reducible show wpAny _ _ (eval (PySem.Expr.BinOp (PySem.Expr.Name _ _) _ (PySem.Expr.Name _ _) _) _) _ _ _); k_dflt (refine' bin_nn ?F ?v ?v2 ?_ ?a ?b ?b2 (by decide) (by decide); (case F => k_asm); (case v => exact Eq.refl (some _)); (case a => exact Eq.refl ScopeKind.function); (case b => exact Eq.refl (some NameKind.local)); (case v2 => exact Eq.refl (some _)); (case b2 => exact Eq.refl (some NameKind.local)); k_whole)) | ((with_reducible show wpAny _ _ (eval (PySem.Expr.BinOp (PySem.Expr.Name _ _) _ _ _) _) _ _ _); k_dflt (refine' bin_n ?F ?v ?_ ?a ?b (by decide); (case F => k_asm); (case v => exact Eq.refl (some _)); (case a => exact Eq.refl ScopeKind.function); (case b => exact Eq.refl (some NameKind.local)); k_whole)) | ((with_reducible show wpAny _ _ (execs (Stmt.Assign [PySem.Expr.Name _ _] _ _ :: _) _) _ _ _); k_dflt (refine' asg ?_; k_whole)) | ((with_reducible show wpAny _ _ (storeName _ _ _) _ _ _); k_dflt (refine' st_tk ?F ?N ?_ ?a ?b; (case F => k_asm); (case N => k_asm); (case a => exact Eq.refl ScopeKind.function); (case b => exact Eq.refl (some NameKind.local)); k_whole); intro h_z tk_z F_z N_z; (try k_sweep)) | ((with_reducible show wpAny _ _ (spliced (backTo _ (starEach (PySem.Expr.Name _ _ :: _) _))) _ _ _); k_dflt (refine' sp_n ?F ?v ?_ ?a ?b (by decide); (case F => k_asm); (case v => exact Eq.refl (some _)); (case a => exact Eq.refl ScopeKind.function); (case b => exact Eq.refl (some NameKind.local)); k_whole)) | ((with_reducible show wpAny _ _ (spliced (backTo _ (starEach (PySem.Expr.Constant (PySem.Const.int _) _ _ :: _) _))) _ _ _); k_dflt (refine' sp_c ?_; k_whole)) | ((with_reducible show wpAny _ _ (assign (PySem.Expr.Tuple _ _ _) _ (Value.ref _)) _ _ _); k_dflt (refine' kun_list ?k1 ?k2 (Heap.IsList.at ?k3 (fun o e => Fr.keep ?k7 _ o e)) ?k4 ?k5 ?k6 ?_; (case k1 => k_asm); (case k7 => k_asm); (case k2 => k_asm); (case k3 => assumption); (case k4 => exact rfl); (case k5 => exact rfl); (case k6 => exact rfl); k_whole); intro hq_z Fq_z Nq_z; (try k_sweep)) | ((with_reducible show wpAny _ _ (exec (Stmt.For _ _ _ _ _) _) _ _ _); k_dflt (refine wpAny_For ?_)) | ((with_reducible show wpAny _ _ (subscriptTail _ _ (Value.ref _) (Value.int _ _)) _ _ _); k_dflt (refine' item_base ?k1 ?k2 ?k3 ?k4 ?k5 ?k6 ?_; (case k1 => k_asm); (case k2 => assumption); (case k3 => assumption); (case k4 => omega); (case k5 => omega); (case k6 => omega); k_whole); intro tq_z) | walk1)) | (leave1; walk_say "STEP leave1"; (try dsimp only)) | fail "no step"))
    · (rename Fr _ _ _ _ => F8)
      exact hret _ _ _ F8.keep ⟨_, by rw [hc, hcd, if_pos (show xl.getD k.toNat 0 ≠ 0 from by assumption)]⟩
    · (rename Fr _ _ _ _ => F8)
      (rename News _ _ _ _ => N8)
      refine ⟨_, _, _, [], rfl, F8, fun q hq => N8 q (by rw [List.mem_singleton.mp hq]; k_mem), (fun _ h => nomatch h), rfl, ?_, ?_⟩
      · intro y e1 e2
        simp only [e1, e2, if_false]
      · rw [hc, hcd, if_neg (show ¬ xl.getD k.toNat 0 ≠ 0 from by omega)]
  case fin =>
    intro u h9 tk9 hc F9 N9
    clear NL FL
    unfold fiM at F9
    (repeat' (first | (k_unfold; (try dsimp only)) | (k_end; kc_close) | (first | ((with_reducible show wpAny _ _ (eval (PySem.Expr.Name _ _) _) _ _ _); k_dflt (refine' nameX_L ?F ?v ?_ ?a ?b (by decide); (case F => k_asm); (case v => exact Eq.refl (some _)); (case a => exact Eq.refl ScopeKind.function); (case b => exact Eq.refl (some NameKind.local)); k_whole)) | ((with_reducible show wpAny _ _ (eval (PySem.Expr.BinOp (PySem.Expr.Name _ _) _ (PySem.Expr.Name _ _) _) _) _ _ _); k_dflt (refine' bin_nn ?F ?v ?v2 ?_ ?a ?b ?b2 (by decide) (by decide); (case F => k_asm); (case v => exact Eq.refl (some _)); (case a => exact Eq.refl ScopeKind.function); (case b => exact Eq.refl (some NameKind.local)); (case v2 => exact Eq.refl (some _)); (case b2 => exact Eq.refl (some NameKind.local)); k_whole)) | ((with_reducible show wpAny _ _ (eval (PySem.Expr.BinOp (PySem.Expr.Name _ _) _ _ _) _) _ _ _); k_dflt (refine' bin_n ?F ?v ?_ ?a ?b (by decide); (case F => k_asm); (case v => exact Eq.refl (some _)); (case a => exact Eq.refl ScopeKind.function); (case b => exact Eq.refl (some NameKind.local)); k_whole)) | ((with_reducible show wpAny _ _ (execs (Stmt.Assign [PySem.Expr.Name _ _] _ _ :: _) _) _ _ _); k_dflt (refine' asg ?_; k_whole)) | ((with_reducible show wpAny _ _ (storeName _ _ _) _ _ _); k_dflt (refine' st_tk ?F ?N ?_ ?a ?b; (case F => k_asm); (case N => k_asm); (case a => exact Eq.refl ScopeKind.function); (case b => exact Eq.refl (some NameKind.local)); k_whole); intro h_z tk_z F_z N_z; (try k_sweep)) | ((with_reducible show wpAny _ _ (spliced (backTo _ (starEach (PySem.Expr.Name _ _ :: _) _))) _ _ _); k_dflt (refine' sp_n ?F ?v ?_ ?a ?b (by decide); (case F => k_asm); (case v => exact Eq.refl (some _)); (case a => exact Eq.refl ScopeKind.function); (case b => exact Eq.refl (some NameKind.local)); k_whole)) | ((with_reducible show wpAny _ _ (spliced (backTo _ (starEach (PySem.Expr.Constant (PySem.Const.int _) _ _ :: _) _))) _ _ _); k_dflt (refine' sp_c ?_; k_whole)) | ((with_reducible show wpAny _ _ (assign (PySem.Expr.Tuple _ _ _) _ (Value.ref _)) _ _ _); k_dflt (refine' kun_list ?k1 ?k2 (Heap.IsList.at ?k3 (fun o e => Fr.keep ?k7 _ o e)) ?k4 ?k5 ?k6 ?_; (case k1 => k_asm); (case k7 => k_asm); (case k2 => k_asm); (case k3 => assumption); (case k4 => exact rfl); (case k5 => exact rfl); (case k6 => exact rfl); k_whole); intro hq_z Fq_z Nq_z; (try k_sweep)) | ((with_reducible show wpAny _ _ (exec (Stmt.For _ _ _ _ _) _) _ _ _); k_dflt (refine wpAny_For ?_)) | ((with_reducible show wpAny _ _ (subscriptTail _ _ (Value.ref _) (Value.int _ _)) _ _ _); k_dflt (refine' item_base ?k1 ?k2 ?k3 ?k4 ?k5 ?k6 ?_; (case k1 => k_asm); (case k2 => assumption); (case k3 => assumption); (case k4 => omega); (case k5 => omega); (case k6 => omega); k_whole); intro tq_z) | walk1) | (dsimp only; (first | ((with_reducible show wpAny _ _ (eval (PySem.Expr.Name _ _) _) _ _ _); k_dflt (refine' nameX_L ?F ?v ?_ ?a ?b (by decide); (case F => k_asm); (case v => exact Eq.refl (some _)); (case a => exact Eq.refl ScopeKind.function); (case b => exact Eq.refl (some NameKind.local)); k_whole)) | ((with_reducible show wpAny _ _ (eval (PySem.Expr.BinOp (PySem.Expr.Name _ _) _ (PySem.Expr.Name _ _) _) _) _ _ _); k_dflt (refine' bin_nn ?F ?v ?v2 ?_ ?a ?b ?b2 (by decide) (by decide); (case F => k_asm); (case v => exact Eq.refl (some _)); (case a => exact Eq.refl ScopeKind.function); (case b => exact Eq.refl (some NameKind.local)); (case v2 => exact Eq.refl (some _)); (case b2 => exact Eq.refl (some NameKind.local)); k_whole)) | ((with_reducible show wpAny _ _ (eval (PySem.Expr.BinOp (PySem.Expr.Name _ _) _ _ _) _) _ _ _); k_dflt (refine' bin_n ?F ?v ?_ ?a ?b (by decide); (case F => k_asm); (case v => exact Eq.refl (some _)); (case a => exact Eq.refl ScopeKind.function); (case b => exact Eq.refl (some NameKind.local)); k_whole)) | ((with_reducible show wpAny _ _ (execs (Stmt.Assign [PySem.Expr.Name _ _] _ _ :: _) _) _ _ _); k_dflt (refine' asg ?_; k_whole)) | ((with_reducible show wpAny _ _ (storeName _ _ _) _ _ _); k_dflt (refine' st_tk ?F ?N ?_ ?a ?b; (case F => k_asm); (case N => k_asm); (case a => exact Eq.refl ScopeKind.function); (case b => exact Eq.refl (some NameKind.local)); k_whole); intro h_z tk_z F_z N_z; (try k_sweep)) | ((with_reducible show wpAny _ _ (spliced (backTo _ (starEach (PySem.Expr.Name _ _ :: _) _))) _ _ _); k_dflt (refine' sp_n ?F ?v ?_ ?a ?b (by decide); (case F => k_asm); (case v => exact Eq.refl (some _)); (case a => exact Eq.refl ScopeKind.function); (case b => exact Eq.refl (some NameKind.local)); k_whole)) | ((with_reducible show wpAny _ _ (spliced (backTo _ (starEach (PySem.Expr.Constant (PySem.Const.int _) _ _ :: _) _))) _ _ _); k_dflt (refine' sp_c ?_; k_whole)) | ((with_reducible show wpAny _ _ (assign (PySem.Expr.Tuple _ _ _) _ (Value.ref _)) _ _ _); k_dflt (refine' kun_list ?k1 ?k2 (Heap.IsList.at ?k3 (fun o e => Fr.keep ?k7 _ o e)) ?k4 ?k5 ?k6 ?_; (case k1 => k_asm); (case k7 => k_asm); (case k2 => k_asm); (case k3 => assumption); (case k4 => exact rfl); (case k5 => exact rfl); (case k6 => exact rfl); k_whole); intro hq_z Fq_z Nq_z; (try k_sweep)) | ((with_reducible show wpAny _ _ (exec (Stmt.For _ _ _ _ _) _) _ _ _); k_dflt (refine wpAny_For ?_)) | ((with_reducible show wpAny _ _ (subscriptTail _ _ (Value.ref _) (Value.int _ _)) _ _ _); k_dflt (refine' item_base ?k1 ?k2 ?k3 ?k4 ?k5 ?k6 ?_; (case k1 => k_asm); (case k2 => assumption); (case k3 => assumption); (case k4 => omega); (case k5 => omega); (case k6 => omega); k_whole); intro tq_z) | walk1)) | (leave1; walk_say "STEP leave1"; (try dsimp only)) | fail "no step"))
    (rename Fr _ _ _ _ => F8)
    exact hret _ _ _ F8.keep ⟨_, by rw [hc, hP.1, List.drop_length]; rfl⟩
end Mine
end

section
open PySem PySem.W PySem.Calls PySem.Spec PyProof.Rows PyProof.Rows.LCg
set_option maxRecDepth 100000
set_option maxHeartbeats 8000000
namespace Mine
section
variable {prog : Program} {w : World} {A : Around} {E : Value → Shared → Prop} {s : Shared} {R : Result → Shared → Prop}
/-- one turn of the outer clause of two -/
theorem compTurn_outer (elt t0 i0 t1 i1 : PySem.Expr) (scope : Scope) (pos : Pos) (it acc : Value) (env : Env) :
    compTurn (.ListComp elt [⟨t0, i0, [], 0⟩, ⟨t1, i1, [], 0⟩] scope pos) 0 it acc env = (standAt i0.pos >>= fun _ => pyNext it >>= fun r => match r with
      | none => pure (.done .next)
      | some v => letOwnedTupleGo t0 it v >>= fun _ => assign t0 env v >>= fun _ =>
        (eval i1 env >>= fun x => standAt i1.pos >>= fun _ => foldedSetIterable i1 env x >>= fun x => holding [x] (pyIter x) >>= fun y => runOwn (.compStart (.ListComp elt [⟨t0, i0, [], 0⟩, ⟨t1, i1, [], 0⟩] scope pos) 1 y acc env) env >>= fun _ =>
          again (.compLoop (.ListComp elt [⟨t0, i0, [], 0⟩, ⟨t1, i1, [], 0⟩] scope pos) 0 it acc env))) := by rfl
/-- one turn of the inner clause of two -/
theorem compTurn_inner (elt t0 i0 t1 i1 : PySem.Expr) (scope : Scope) (pos : Pos) (it acc : Value) (env : Env) :
    compTurn (.ListComp elt [⟨t0, i0, [], 0⟩, ⟨t1, i1, [], 0⟩] scope pos) 1 it acc env = (standAt i1.pos >>= fun _ => pyNext it >>= fun r => match r with
      | none => pure (.done .next)
      | some v => letOwnedTupleGo t1 it v >>= fun _ => assign t1 env v >>= fun _ =>
        (eval elt env >>= fun x => call (.builtin "list.append") [acc, x] >>= fun _ => pure ()) >>= fun _ =>
          again (.compLoop (.ListComp elt [⟨t0, i0, [], 0⟩, ⟨t1, i1, [], 0⟩] scope pos) 1 it acc env)) := by rfl
theorem loop_outer {elt t0 i0 t1 i1 : PySem.Expr} {scope : Scope} {pos : Pos} {it acc : Value} {env : Env} (I : Nat → Shared → Prop) (hs : ∀ x, foldedSetIterable i1 env x = pure x)
    (turn : ∀ n s, I n s → wpAny (model prog w) A (pyNext it) (fun r s₁ => match r with
      | none => R (.ok .next) s₁
      | some v => wpAny (model prog w) A (letOwnedTupleGo t0 it v) (fun _ s₁' => wpAny (model prog w) A (assign t0 env v) (fun _ s₂ =>
          wpAny (model prog w) A (eval i1 env) (fun x s₃ => wpAny (model prog w) A (pyIter x) (fun y s₄ => codeAny (model prog w) A (.compStart (.ListComp elt [⟨t0, i0, [], 0⟩, ⟨t1, i1, [], 0⟩] scope pos) 1 y acc env)
              (fun r s₅ => match r with | .ok _ => ∃ m, m < n ∧ I m s₅ | .error e => cameBackBy (model prog w) A env (notedBy (model prog w) A env fun e s' => R (.error e) s') e s₅) s₄)
            (notedBy (model prog w) A env fun e s' => R (.error e) s') s₃) (notedBy (model prog w) A env fun e s' => R (.error e) s') s₂)
          (notedBy (model prog w) A env fun e s' => R (.error e) s') s₁') (notedBy (model prog w) A env fun e s' => R (.error e) s') s₁) (notedBy (model prog w) A env fun e s' => R (.error e) s') s)
    (n : Nat) (h : I n s) : codeAny (model prog w) A (.compLoop (.ListComp elt [⟨t0, i0, [], 0⟩, ⟨t1, i1, [], 0⟩] scope pos) 0 it acc env) R s := by
  refine codeAny_loop rfl I (fun n s hI => ?_) n h
  show wpAny _ A ((compTurn (.ListComp elt [⟨t0, i0, [], 0⟩, ⟨t1, i1, [], 0⟩] scope pos) 0 it acc env).onRaise (fun x => do noteFrame x env; theTreesLotGoes x)) _ _ s
  refine wpAny_noted ?_
  rw [compTurn_outer]
  refine wpAny_bind (wpAny_standAt (wpAny_bind (wpAny_mono (turn n s hI) (fun r s₁ h₁ => ?_) fun _ _ h' => h')))
  cases r with
  | none => exact wpAny_pure h₁
  | some v =>
    refine wpAny_bind (wpAny_mono h₁ (fun _ s₁' h₁' => ?_) fun _ _ h' => h')
    refine wpAny_bind (wpAny_mono h₁' (fun _ s₂ h₂ => ?_) fun _ _ h' => h')
    refine wpAny_bind (wpAny_mono h₂ (fun x s₃ h₃ => ?_) fun _ _ h' => h')
    refine wpAny_bind (wpAny_standAt (wpAny_bind (wpAny_of_eq (hs x) (wpAny_bind (wpAny_holding (wpAny_mono h₃ (fun y s₄ h₄ => ?_) fun _ _ h' => h'))))))
    refine wpAny_bind (wpAny_runOwn (codeAny_mono h₄ fun r s₅ h₅ => ?_))
    cases r with
    | ok f => exact wpAny_pure ⟨rfl, h₅⟩
    | error e => exact h₅
theorem loop_inner {elt t0 i0 t1 i1 : PySem.Expr} {scope : Scope} {pos : Pos} {it acc : Value} {env : Env} (I : Nat → Shared → Prop)
    (turn : ∀ n s, I n s → wpAny (model prog w) A (pyNext it) (fun r s₁ => match r with
      | none => R (.ok .next) s₁
      | some v => wpAny (model prog w) A (letOwnedTupleGo t1 it v) (fun _ s₁' => wpAny (model prog w) A (assign t1 env v) (fun _ s₂ =>
          wpAny (model prog w) A (eval elt env) (fun x s₄ =>
              wpAny (model prog w) A (call (.builtin "list.append") [acc, x]) (fun _ s₅ => ∃ m, m < n ∧ I m s₅) (notedBy (model prog w) A env fun e s' => R (.error e) s') s₄) (notedBy (model prog w) A env fun e s' => R (.error e) s') s₂)
          (notedBy (model prog w) A env fun e s' => R (.error e) s') s₁') (notedBy (model prog w) A env fun e s' => R (.error e) s') s₁) (notedBy (model prog w) A env fun e s' => R (.error e) s') s)
    (n : Nat) (h : I n s) : codeAny (model prog w) A (.compLoop (.ListComp elt [⟨t0, i0, [], 0⟩, ⟨t1, i1, [], 0⟩] scope pos) 1 it acc env) R s := by
  refine codeAny_loop rfl I (fun n s hI => ?_) n h
  show wpAny _ A ((compTurn (.ListComp elt [⟨t0, i0, [], 0⟩, ⟨t1, i1, [], 0⟩] scope pos) 1 it acc env).onRaise (fun x => do noteFrame x env; theTreesLotGoes x)) _ _ s
  refine wpAny_noted ?_
  rw [compTurn_inner]
  refine wpAny_bind (wpAny_standAt (wpAny_bind (wpAny_mono (turn n s hI) (fun r s₁ h₁ => ?_) fun _ _ h' => h')))
  cases r with
  | none => exact wpAny_pure h₁
  | some v =>
    refine wpAny_bind (wpAny_mono h₁ (fun _ s₁' h₁' => ?_) fun _ _ h' => h')
    refine wpAny_bind (wpAny_mono h₁' (fun _ s₂ h₂ => ?_) fun _ _ h' => h')
    exact wpAny_bind (wpAny_bind (wpAny_mono h₂ (fun x s₄ h₄ => wpAny_bind (wpAny_mono h₄ (fun _ s₅ h₅ => wpAny_pure (wpAny_pure ⟨rfl, h₅⟩)) fun _ _ h' => h')) fun _ _ h' => h'))
theorem start_inner {elt t0 i0 t1 i1 : PySem.Expr} {scope : Scope} {pos : Pos} {it acc : Value} {env : Env}
    (h0 : codeAny (model prog w) A (.compLoop (.ListComp elt [⟨t0, i0, [], 0⟩, ⟨t1, i1, [], 0⟩] scope pos) 1 it acc env) R s)
    (h : wpAny (model prog w) A (pyIter it) (fun it' s' => codeAny (model prog w) A (.compLoop (.ListComp elt [⟨t0, i0, [], 0⟩, ⟨t1, i1, [], 0⟩] scope pos) 1 it' acc env) R s')
      (notedBy (model prog w) A env fun x s' => R (.error x) s') s) :
    codeAny (model prog w) A (.compStart (.ListComp elt [⟨t0, i0, [], 0⟩, ⟨t1, i1, [], 0⟩] scope pos) 1 it acc env) R s := by
  refine codeAny_of_tree ?_
  show wpAny _ _ ((compStart (.ListComp elt [⟨t0, i0, [], 0⟩, ⟨t1, i1, [], 0⟩] scope pos) 1 it acc env).onRaise (fun x => do noteFrame x env; standAt theWindowsPlace)) _ _ s
  refine wpAny_notedAt ?_
  unfold compStart
  show wpAny _ _ (ask >>= _) _ _ s
  refine wpAny_bind (wpAny_askSetting (wpAny_ite ?_))
  split
  · first
      | exact wpAny_bind (wpAny_pure (wpAny_pure (And.intro rfl h0)))
      | exact wpAny_pure (And.intro rfl h0)
  · first
      | exact wpAny_bind (wpAny_rule (wpAny_bind (wpAny_standAt (wpAny_bind (wpAny_mono h (fun it' s' h' => wpAny_pure (And.intro rfl h')) fun _ _ x => x)))))
      | (refine wpAny_bind (wpAny_rule ?_); show wpAny _ _ (standAt i1.pos >>= _) _ _ s; exact wpAny_bind (wpAny_standAt (wpAny_bind (wpAny_mono h (fun it' s' h' => wpAny_pure (And.intro rfl h')) fun _ _ x => x))))
end
end Mine
end

section
open PySem PySem.W PySem.Calls PySem.Spec PyProof.Rows PyProof.Rows.LCg
set_option maxRecDepth 100000
set_option maxHeartbeats 8000000
namespace Mine
/-- pairs of ints as they lie in a ledger -/
noncomputable def KeysL (ys : List Value) (es : List (Addr × Obj)) (ks : List (Int × Int)) : Prop :=
  ys.length = ks.length ∧ ∀ (i : Nat) (k d : Int), ks[i]? = some (k, d) → ∃ P t1 t2 c, ys[i]? = some (.ref P) ∧ (P, tupO #[.int k t1, .int d t2] c) ∈ es
theorem KeysL.nil {es : List (Addr × Obj)} : KeysL [] es [] := ⟨rfl, fun i k d h => by simp at h⟩
theorem KeysL.snoc {ys : List Value} {es : List (Addr × Obj)} {ks : List (Int × Int)} {P : Addr} {k d : Int} {t1 t2 : Tok} {c : Nat} (h : KeysL ys es ks) :
    KeysL (ys ++ [.ref P]) ((P, tupO #[.int k t1, .int d t2] c) :: es) (ks ++ [(k, d)]) := by
  refine ⟨by simp [h.1], fun i k' d' hi => ?_⟩
  rcases Nat.lt_or_ge i ks.length with hlt | hge
  · rw [List.getElem?_append_left hlt] at hi
    obtain ⟨P', t1', t2', c', e1, e2⟩ := h.2 i k' d' hi
    exact ⟨P', t1', t2', c', by rw [List.getElem?_append_left (by rw [h.1]; exact hlt)]; exact e1, .tail _ e2⟩
  · rcases Nat.eq_or_lt_of_le hge with heq | hgt
    · subst heq
      rw [List.getElem?_append_right (Nat.le_refl _), Nat.sub_self] at hi
      cases hi
      exact ⟨P, t1, t2, c, by rw [← h.1, List.getElem?_append_right (Nat.le_refl _), Nat.sub_self]; rfl, .head _⟩
    · rw [List.getElem?_eq_none (by simp; omega)] at hi
      cases hi
section
variable {prog : Program} {w : World} {A : Around} {E : Value → Shared → Prop} {s : Shared} {h₀ : Heap} {L : Addr} {m : Str → Option Value} {env : Env} {R : Result → Shared → Prop}
theorem rangeKs_succ (a : Int) (j : Nat) : rangeKs a (j + 1) = rangeKs a j ++ [a + (j : Int)] := by
  simp [rangeKs, List.range_succ]
theorem keys_inner {elt t0 i0 i1 : PySem.Expr} {y x2 : Str} {py : Pos} {scope : Scope} {pos : Pos} {cl : List (Str × Addr)} {C D I I2 : Addr} {oI : Obj} {a dv : Int} {cnt : Nat} {t2 : Tok} {news : List (Addr × Obj)} {ks₀ : List (Int × Int)} (wy : Int → Int)
    {H : Heap} {tk₀ : Nat} {ys₀ : List Value} {es₀ : List (Addr × Obj)} {mC : Str → Option Value}
    (hh : A.handled = none) (hkind : scope.kind = .function) (hy : scope.names.lookup y = some .local) (hyx : x2 ≠ y) (hsz : ks₀.length + cnt ≤ sizeLine)
    (helt : ∀ (k : Int) (t : Tok) oI2 oC m₂ ys es h tk (E' : Value → Shared → Prop), a ≤ k → k < a + (cnt : Int) → NsObj oC m₂ → m₂ y = some (.int k t) → m₂ x2 = some (.int dv t2) → Fr h₀ L h m → News h₀ L h ((I2, oI2) :: (I, oI) :: (C, oC) :: (D, lst ys) :: (news ++ es)) →
      wpAny (model prog w) A (eval elt (compEnvC scope cl C env)) (fun v s' => ∃ P t1 t3 c h' tk', v = .ref P ∧ s' = { s with heap := h', toks := tk' } ∧ Fr h₀ L h' m ∧ News h₀ L h' ((P, tupO #[.int k t1, .int (dv * wy k) t3] c) :: (I2, oI2) :: (I, oI) :: (C, oC) :: (D, lst ys) :: (news ++ es)) ∧
        AllNe P ((I2, oI2) :: (I, oI) :: (C, oC) :: (D, lst ys) :: (news ++ es))) E' { s with heap := h, toks := tk })
    (hst : IsRangeIter H I2 a (cnt : Int) 1) (F : Fr h₀ L H m) (hC : H.Ns C mC) (hx2 : mC x2 = some (.int dv t2)) (N : News h₀ L H ((I, oI) :: (D, lst ys₀) :: (news ++ es₀))) (off : Off3 I C D (news ++ es₀)) (off2 : ∀ p ∈ news ++ es₀, p.1 ≠ I2)
    (hIC : I ≠ C) (hID : I ≠ D) (hCD : C ≠ D) (h2I : I2 ≠ I) (h2C : I2 ≠ C) (h2D : I2 ≠ D) (h2L : I2 ≠ L) (h20 : h₀.get? I2 = none) (hCL : C ≠ L) (hC0 : h₀.get? C = none) (hK : KeysL ys₀ es₀ ks₀)
    (hR : ∀ h' tk ys es m', Fr h₀ L h' m → h'.Ns C m' → News h₀ L h' ((I, oI) :: (D, lst ys) :: (news ++ es)) → Off3 I C D (news ++ es) → KeysL ys es (ks₀ ++ (rangeKs a cnt).map fun k => (k, dv * wy k)) → R (.ok .next) { s with heap := h', toks := tk }) :
    codeAny (model prog w) A (.compStart (.ListComp elt [⟨t0, i0, [], 0⟩, ⟨.Name y py, i1, [], 0⟩] scope pos) 1 (.ref I2) (.ref D) (compEnvC scope cl C env)) R { s with heap := H, toks := tk₀ } := by
  have W := range_walks (prog := prog) (w := w) (A := A) (I := I2) hh a cnt
  have st0 : IsRangeIter H I2 (a + ((0 : Nat) : Int) * 1) ((cnt : Int) - ((0 : Nat) : Int)) 1 := by simpa using hst
  have loop : ∀ s₃ : Shared, s₃ = { s with heap := H, toks := tk₀ } → codeAny (model prog w) A (.compLoop (.ListComp elt [⟨t0, i0, [], 0⟩, ⟨.Name y py, i1, [], 0⟩] scope pos) 1 (.ref I2) (.ref D) (compEnvC scope cl C env)) R s₃ := by
    rintro s₃ rfl
    refine loop_inner (fun k s' => ∃ h' tk j ys es m', s' = { s with heap := h', toks := tk } ∧ j ≤ cnt ∧ k = cnt + 1 - j ∧ IsRangeIter h' I2 (a + (j : Nat) * 1) ((cnt : Int) - (j : Nat)) 1 ∧ Fr h₀ L h' m ∧ h'.Ns C m' ∧ m' x2 = some (.int dv t2) ∧
      News h₀ L h' ((I, oI) :: (D, lst ys) :: (news ++ es)) ∧ Off3 I C D (news ++ es) ∧ (∀ p ∈ news ++ es, p.1 ≠ I2) ∧ KeysL ys es (ks₀ ++ (rangeKs a j).map fun k => (k, dv * wy k))) ?_ (cnt + 1)
      ⟨H, tk₀, 0, ys₀, es₀, mC, rfl, Nat.zero_le _, rfl, st0, F, hC, hx2, N, off, off2, by simpa [rangeKs] using hK⟩
    rintro k s' ⟨h', tk, j, ys, es, m', rfl, hj, rfl, hst', F', hn', hx', N', off', off2', hK'⟩
    by_cases hlt : j < cnt
    · refine W.item j _ _ _ hlt hst' fun v h₂ tk₂ hPv hst₂ hk₂ => ?_
      obtain ⟨t, rfl⟩ := hPv
      have hk2 : ∀ b o, b ≠ I2 → h'.get? b = some o → h₂.get? b = some o := fun b o hb e => hk₂ b o (by simpa using hb) e
      obtain ⟨oIt, hIt⟩ : ∃ o, h₂.get? I2 = some o := ⟨_, hst₂⟩
      have hIcls : oIt.cls = .type "range_iterator" := by
        have q : h₂.get? I2 = some _ := hst₂
        rw [hIt] at q
        cases q
        rfl
      refine letOwned_other hIt hIcls (by decide) ?_
      refine wpAny_assign_Name (wpAny_storeName_local (lookup_relabel_local hy) (hn'.at' fun o e => hk2 _ o (Ne.symm h2C) e) (fun h₃ hn₃ hs₃ => ?_) (by simp [compEnvC, relabel, hkind]))
      have hst₃ : IsRangeIter h₃ I2 (a + ((j + 1 : Nat) : Nat) * 1) ((cnt : Int) - ((j + 1 : Nat) : Nat)) 1 := W.frame _ _ _ hst₂ fun b hb o e => hs₃.extBut b o (by rw [List.mem_singleton.mp hb]; exact h2C) e
      obtain ⟨oI2, heI2⟩ : ∃ o, h₃.get? I2 = some o := ⟨_, hst₃⟩
      obtain ⟨oC, heC, hoC⟩ := ns_obj hn₃
      have F₃ : Fr h₀ L h₃ m := (fr_but F' hk₂ (Ne.symm h2L) h20).change hs₃ hCL hC0
      have offm := off'.mem
      have N₃ : News h₀ L h₃ ((I2, oI2) :: (I, oI) :: (C, oC) :: (D, lst ys) :: (news ++ es)) := fun p hp => by
        have up : ∀ q ∈ (I, oI) :: (D, lst ys) :: (news ++ es), q.1 ≠ I2 → q.1 ≠ C → h₃.get? q.1 = some q.2 ∧ q.1 ≠ L ∧ h₀.get? q.1 = none := fun q hq e1 e2 => ⟨hs₃.extBut _ _ e2 (hk2 _ _ e1 (N' q hq).1), (N' q hq).2⟩
        rcases List.mem_cons.mp hp with rfl | hp
        · exact ⟨heI2, h2L, h20⟩
        · rcases List.mem_cons.mp hp with rfl | hp
          · exact up _ (.head _) (Ne.symm h2I) hIC
          · rcases List.mem_cons.mp hp with rfl | hp
            · exact ⟨heC, hCL, hC0⟩
            · rcases List.mem_cons.mp hp with rfl | hp
              · exact up _ (.tail _ (.head _)) (Ne.symm h2D) (Ne.symm hCD)
              · exact up _ (.tail _ (.tail _ hp)) (off2' _ hp) (offm _ hp).2.1
      refine wpAny_mono (helt (a + (j : Int)) t oI2 oC _ ys es h₃ _ _ (by omega) (by omega) hoC (by simp) (by simp only [hyx, if_false]; exact hx') F₃ N₃) (fun v s₄ h₄ => ?_) fun _ _ e => e
      obtain ⟨P, t1, t3, c, h₄, tk₄, rfl, rfl, F₄, N₄, hne⟩ := h₄
      obtain ⟨hP2, hPI, hPC, hPD, hPn⟩ := hne
      have zD := (N₄ (D, lst ys) (by simp)).1
      have hlen : ys.length = ks₀.length + j := by rw [hK'.1]; simp [rangeKs]
      refine append_at (hsz := by show ys.toArray.size ≤ sizeLine; rw [List.size_toArray, hlen]; omega) zD fun h₅ hs₅ hD₅ => ?_
      have zDL := (N₄ (D, lst ys) (by simp)).2
      refine ⟨cnt + 1 - (j + 1), by omega, h₅, tk₄, j + 1, ys ++ [.ref P], (P, tupO #[.int (a + (j : Int)) t1, .int (dv * wy (a + (j : Int))) t3] c) :: es, _, rfl, hlt, rfl, ?_, F₄.change hs₅ zDL.1 zDL.2, (hoC.ns ((N₄ (C, oC) (by simp)).1)).sameBut hs₅ hCD, by simp only [hyx, if_false]; exact hx', ?_, ?_, ?_, ?_⟩
      · have q : h₃.get? I2 = some _ := hst₃
        have q4 := (N₄ (I2, oI2) (by simp)).1
        show h₅.get? I2 = some _
        rw [hs₅.2 I2 h2D, q4, ← heI2]
        exact q
      · intro p hp
        have fromN : p ∈ (P, tupO #[.int (a + (j : Int)) t1, .int (dv * wy (a + (j : Int))) t3] c) :: (I2, oI2) :: (I, oI) :: (C, oC) :: (D, lst ys) :: (news ++ es) → p.1 ≠ D → h₅.get? p.1 = some p.2 ∧ p.1 ≠ L ∧ h₀.get? p.1 = none := fun hq e => ⟨hs₅.extBut _ _ e (N₄ p hq).1, (N₄ p hq).2⟩
        rcases List.mem_cons.mp hp with rfl | hp
        · exact fromN (by simp) hID
        · rcases List.mem_cons.mp hp with rfl | hp
          · exact ⟨hD₅.trans (congrArg some (lst_snoc ys _)), zDL⟩
          · rcases List.mem_append.mp hp with hp | hp
            · exact fromN (by simp [hp]) (offm p (List.mem_append_left _ hp)).2.2
            · rcases List.mem_cons.mp hp with rfl | hp
              · exact fromN (by simp) (Ne.symm hPD)
              · exact fromN (by simp [hp]) (offm p (List.mem_append_right _ hp)).2.2
      · refine Off3.of fun p hp => ?_
        rcases List.mem_append.mp hp with hp | hp
        · exact offm p (List.mem_append_left _ hp)
        · rcases List.mem_cons.mp hp with rfl | hp
          · exact ⟨Ne.symm hPI, Ne.symm hPC, Ne.symm hPD⟩
          · exact offm p (List.mem_append_right _ hp)
      · intro p hp
        rcases List.mem_append.mp hp with hp | hp
        · exact off2' p (List.mem_append_left _ hp)
        · rcases List.mem_cons.mp hp with rfl | hp
          · exact Ne.symm hP2
          · exact off2' p (List.mem_append_right _ hp)
      · rw [rangeKs_succ, List.map_append, ← List.append_assoc]
        exact hK'.snoc
    · obtain rfl : j = cnt := Nat.le_antisymm hj (Nat.not_lt.mp hlt)
      refine W.done _ _ _ hst' fun h₂ tk₂ hk₂ => ?_
      have hk2 : ∀ b o, b ≠ I2 → h'.get? b = some o → h₂.get? b = some o := fun b o hb e => hk₂ b o (by simpa using hb) e
      refine hR h₂ tk₂ ys es m' (fr_but F' hk₂ (Ne.symm h2L) h20) (hn'.at' fun o e => hk2 _ o (Ne.symm h2C) e) (news_but N' hk₂ fun p hp => ?_) off' hK'
      rcases List.mem_cons.mp hp with rfl | hp
      · exact Ne.symm h2I
      · rcases List.mem_cons.mp hp with rfl | hp
        · exact Ne.symm h2D
        · exact off2' p hp
  exact start_inner (loop _ rfl) (W.self 0 _ _ _ st0 (loop _ rfl))

/-- the wishes as they lie in a ledger -/
noncomputable def WishL (vs : Array Value) (news : List (Addr × Obj)) (ws : List (Int × Int)) : Prop :=
  vs.size = ws.length ∧ ∀ (i : Nat) (k d : Int), ws[i]? = some (k, d) → ∃ P t1 t2 c, vs[i]? = some (.ref P) ∧ (P, W.listOf #[.int k t1, .int d t2] c) ∈ news
noncomputable def keysOf (lo hi wy : Int → Int) (ws : List (Int × Int)) : List (Int × Int) := ws.flatMap fun q => (rangeKs (lo q.1) (hi q.1 - lo q.1).toNat).map fun k => (k, q.2 * wy k)
theorem keysOf_snoc (lo hi wy : Int → Int) (ws : List (Int × Int)) (k d : Int) : keysOf lo hi wy (ws ++ [(k, d)]) = keysOf lo hi wy ws ++ (rangeKs (lo k) (hi k - lo k).toNat).map fun q => (q, d * wy q) := by
  simp [keysOf]
theorem keysOf_len {lo hi wy : Int → Int} {c : Nat} (hc : ∀ k, (hi k - lo k).toNat ≤ c) : ∀ ws : List (Int × Int), (keysOf lo hi wy ws).length ≤ c * ws.length
  | [] => by simp [keysOf]
  | (k, d) :: r => by
    have ih := keysOf_len hc (wy := wy) r
    have := hc k
    unfold keysOf at ih ⊢
    rw [List.flatMap_cons, List.length_append, List.length_map, rangeKs_length, List.length_cons, Nat.mul_succ]
    dsimp only
    omega
theorem keys_assign {elt i0 i1 : PySem.Expr} {x1 x2 y z : Str} {p1 p2 py pz tp : Pos} {tkd} {scope : Scope} {cl : List (Str × Addr)} {pos spos : Pos} {Q : Flow → Shared → Prop} {news : List (Addr × Obj)} {ax : Addr} {vs : Array Value} {cax c : Nat} {ws : List (Int × Int)} (lo hi wy : Int → Int)
    (F : Fr h₀ L s.heap m) (N : News h₀ L s.heap news) (hh : A.handled = none) (hLe : env.locals = L)
    (hsw : swapsWith (.ListComp elt [⟨.Tuple [.Name x1 p1, .Name x2 p2] tkd tp, i0, [], 0⟩, ⟨.Name y py, i1, [], 0⟩] scope pos) (some (.Name z pz)) spos.line env = pure true)
    (hclos : closureFor scope env = pure cl) (hcell : ∀ z ∈ scope.names, z.2 ≠ .cell) (hkind : scope.kind = .function)
    (hnames : ∀ z ∈ scope.names, z.2 = .local → scope.names.lookup z.1 = some .local) (hx1 : scope.names.lookup x1 = some .local) (hx2 : scope.names.lookup x2 = some .local) (hy : scope.names.lookup y = some .local) (h12 : x1 ≠ x2) (hyx : x2 ≠ y)
    (hz : env.kindOf z = some .local) (hp : (env.scope.kind == .class || (env.scope.kind == .module && env.locals != env.globals)) = false)
    (hs : ∀ x, foldedSetIterable i0 env x = pure x) (hs1 : ∀ C x, foldedSetIterable i1 (compEnvC scope cl C env) x = pure x)
    (hsrc : wpAny (model prog w) A (eval i0 env) (fun v s₁ => v = .ref ax ∧ s₁ = s) E s)
    (hax : (ax, W.listOf vs cax) ∈ news) (hW : WishL vs news ws) (hc : ∀ k, (hi k - lo k).toNat ≤ c) (hsz : c * ws.length ≤ sizeLine) (hsm : ∀ k d, (k, d) ∈ ws → Builtin.Range.small (lo k) (hi k) 1 = true) (hrs : ∀ k d, (k, d) ∈ ws → lo k ≤ hi k)
    (hrange : ∀ (k d : Int) (t1 t2 : Tok) I oI C oC D m₂ ys es h tk (E' : Value → Shared → Prop), (k, d) ∈ ws → NsObj oC m₂ → m₂ x1 = some (.int k t1) → m₂ x2 = some (.int d t2) → Fr h₀ L h m → News h₀ L h ((I, oI) :: (C, oC) :: (D, lst ys) :: (news ++ es)) →
      wpAny (model prog w) A (eval i1 (compEnvC scope cl C env)) (fun v s' => ∃ r t u v' h' tk', v = .ref r ∧ s' = { s with heap := h', toks := tk' } ∧ Fr h₀ L h' m ∧ News h₀ L h' ((I, oI) :: (C, oC) :: (D, lst ys) :: (news ++ es)) ∧ IsRange h' r (lo k) (hi k) 1 t u v') E' { s with heap := h, toks := tk })
    (helt : ∀ (q k d : Int) (t t2 : Tok) I oI I2 oI2 C oC D m₂ ys es h tk (E' : Value → Shared → Prop), (q, d) ∈ ws → lo q ≤ k → k < hi q → NsObj oC m₂ → m₂ y = some (.int k t) → m₂ x2 = some (.int d t2) → Fr h₀ L h m → News h₀ L h ((I2, oI2) :: (I, oI) :: (C, oC) :: (D, lst ys) :: (news ++ es)) →
      wpAny (model prog w) A (eval elt (compEnvC scope cl C env)) (fun v s' => ∃ P t1 t3 c h' tk', v = .ref P ∧ s' = { s with heap := h', toks := tk' } ∧ Fr h₀ L h' m ∧ News h₀ L h' ((P, tupO #[.int k t1, .int (d * wy k) t3] c) :: (I2, oI2) :: (I, oI) :: (C, oC) :: (D, lst ys) :: (news ++ es)) ∧
        AllNe P ((I2, oI2) :: (I, oI) :: (C, oC) :: (D, lst ys) :: (news ++ es))) E' { s with heap := h, toks := tk })
    (fin : ∀ ys es D h tk, KeysL ys es (keysOf lo hi wy ws) → Fr h₀ L h (fun q => if q = z then some (.ref D) else m q) → News h₀ L h ((D, lst ys) :: (news ++ es)) → Off1 D (news ++ es) → Q .next { s with heap := h, toks := tk }) :
    wpAny (model prog w) A (exec (.Assign [.Name z pz] (.ListComp elt [⟨.Tuple [.Name x1 p1, .Name x2 p2] tkd tp, i0, [], 0⟩, ⟨.Name y py, i1, [], 0⟩] scope pos) spos) env) Q E s := by
  subst hLe
  rw [exec_Assign_Name_used _ _ _ _ hsw]
  refine wpAny_bind (wpAny_standAt (wpAny_bind ?_))
  show wpAny _ A (do let _ ← comprehension (.ListComp elt [⟨.Tuple [.Name x1 p1, .Name x2 p2] tkd tp, i0, [], 0⟩, ⟨.Name y py, i1, [], 0⟩] scope pos) scope env _ (newList []) false (eval i0 env) (some (assign (.Name z pz) env))) _ _ s
  refine wpAny_bind (wpAny_mono (wpAny_comprehension_free (use := some (assign (.Name z pz) env)) (Q := fun _ s' => Q .next s') rfl hs hclos hkind hnames
    (wpAny_mono hsrc (fun xv s₁ h₁ => ?_) fun _ _ e => e)) (fun _ s' hq => wpAny_pure (wpAny_pure hq)) fun _ _ e => e)
  obtain ⟨rfl, rfl⟩ := h₁
  have hl : s₁.heap.IsList ax vs := ⟨_, (N _ hax).1, rfl, _, rfl⟩
  have hlt : ax < s₁.heap.objs.size := by obtain ⟨_, e, _⟩ := hl; exact Heap.lt_size e
  refine wpAny_pyIter_list hl ?_
  generalize hG : s₁.heap.push { cls := .type "list_iterator", data := .fields #[.ref ax, .int 0 0] } = G
  have up : ∀ b o, s₁.heap.get? b = some o → G.get? b = some o := fun b o e => hG ▸ Heap.get?_push_of_some _ e
  have hGs : G.objs.size = s₁.heap.objs.size + 1 := by rw [← hG, Heap.size_push]
  have hGI : G.IsListIter s₁.heap.objs.size ax 0 := ⟨_, hG ▸ Heap.get?_push_size _ rfl, rfl, rfl⟩
  generalize hI : s₁.heap.objs.size = I at hGI hGs hlt
  refine wpAny_newObj_type (wpAny_newFunctionEnv hcell (by intro y hy; simp at hy) (fun h₁ hns₁ hsb₁ => ?_) hkind)
  dsimp only at hns₁ hsb₁ ⊢
  generalize hH2 : G.push { cls := .type "list", dict := none, data := .seq ([] : List Value).toArray } = H2 at hns₁ hsb₁ ⊢
  have hC : H2.objs.size = I + 2 := by rw [← hH2, Heap.size_push, hGs]
  rw [hC] at hns₁ hsb₁ ⊢
  rw [hGs]
  have old : ∀ b o, G.get? b = some o → h₁.get? b = some o := fun b o e => hsb₁.extBut b o (Nat.ne_of_lt (Nat.lt_succ_of_lt (hGs ▸ Heap.lt_size e))) (Heap.get?_push_of_some _ (hH2 ▸ Heap.get?_push_of_some _ e))
  have hDC : I + 1 ≠ I + 2 := by omega
  have hacc : h₁.get? (I + 1) = some (lst []) := hsb₁.extBut _ _ hDC (Heap.get?_push_of_some _ (hH2 ▸ (by rw [← hGs]; exact Heap.get?_push_size _ rfl)))
  have hIl : h₁.IsListIter I ax 0 := hGI.at fun o e => old _ _ e
  have fresh : ∀ a, I ≤ a → s₁.heap.get? a = none := fun a ha => by
    cases e : s₁.heap.get? a with
    | none => rfl
    | some o' => exact absurd (Heap.lt_size e) (Nat.not_lt.mpr (hI ▸ ha))
  have fresh₀ : ∀ a, I ≤ a → h₀.get? a = none := fun a ha => by
    cases e : h₀.get? a with
    | none => rfl
    | some o' => have := F.keep a o' e; rw [fresh a ha] at this; cases this
  have hLlt : env.locals < I := hI ▸ F.ns.lt
  have hIL : env.locals ≠ I := Nat.ne_of_lt hLlt
  have hDL : I + 1 ≠ env.locals := Ne.symm (Nat.ne_of_lt (Nat.lt_succ_of_lt hLlt))
  have hCL : I + 2 ≠ env.locals := Ne.symm (Nat.ne_of_lt (Nat.lt_succ_of_lt (Nat.lt_succ_of_lt hLlt)))
  have hI₀ := fresh₀ I (Nat.le_refl _)
  have hD₀ := fresh₀ (I + 1) (Nat.le_succ _)
  have hC₀ := fresh₀ (I + 2) (Nat.le_add_right _ _)
  have hIC : I ≠ I + 2 := by omega
  have hID : I ≠ I + 1 := by omega
  have hCD : I + 2 ≠ I + 1 := by omega
  have off₀ : Off3 I (I + 2) (I + 1) (news ++ []) := Off3.of fun p hp => by
    rw [List.append_nil] at hp
    have q : p.1 < I := hI ▸ Heap.lt_size (N p hp).1
    exact ⟨Nat.ne_of_lt q, Nat.ne_of_lt (Nat.lt_succ_of_lt (Nat.lt_succ_of_lt q)), Nat.ne_of_lt (Nat.lt_succ_of_lt q)⟩
  have Wl := Walks.list (prog := prog) (w := w) (A := A) hh I ax (Nat.ne_of_lt hlt) vs
  have hself : ∀ (s' : Shared) (Q' : Value → Shared → Prop) (E' : Value → Shared → Prop), s'.heap.IsListIter I ax 0 → s'.heap.IsList ax vs → Q' (.ref I) s' → wpAny (model prog w) A (pyIter (.ref I)) Q' E' s' := fun s' Q' E' a b q => Wl.self 0 s' Q' E' ⟨a, b⟩ q
  have F₁ : Fr h₀ env.locals h₁ m := F.keeps fun b o e => old b o (up b o e)
  have N₁ : News h₀ env.locals h₁ ((I + 1, lst []) :: (news ++ [])) := fun p hp => by
    rcases List.mem_cons.mp hp with rfl | hp
    · exact ⟨hacc, hDL, hD₀⟩
    · rw [List.append_nil] at hp
      exact ⟨old _ _ (up _ _ (N p hp).1), (N p hp).2⟩
  have loop : ∀ s₃ : Shared, s₃ = { s₁ with heap := h₁, toks := s₁.toks + ([] : List (Str × Value)).length } →
      codeAny (model prog w) A (.compLoop (.ListComp elt [⟨.Tuple [.Name x1 p1, .Name x2 p2] tkd tp, i0, [], 0⟩, ⟨.Name y py, i1, [], 0⟩] scope pos) 0 (.ref I) (.ref (I + 1)) (compEnvC scope cl (I + 2) env))
        (compPost (model prog w) A E (some (assign (.Name z pz) env)) (fun _ s' => Q .next s') (.ref (I + 1)) (I + 2)) s₃ := by
    rintro s₃ rfl
    refine loop_outer (fun k s' => ∃ h' tk i ys es m', s' = { s₁ with heap := h', toks := tk } ∧ i ≤ ws.length ∧ k = ws.length + 1 - i ∧ h'.IsListIter I ax i ∧ Fr h₀ env.locals h' m ∧ h'.Ns (I + 2) m' ∧
      News h₀ env.locals h' ((I + 1, lst ys) :: (news ++ es)) ∧ Off3 I (I + 2) (I + 1) (news ++ es) ∧ KeysL ys es (keysOf lo hi wy (ws.take i))) (hs1 _) ?_ (ws.length + 1)
      ⟨h₁, _, 0, [], [], _, rfl, Nat.zero_le _, rfl, hIl, F₁, hns₁, N₁, off₀, by simpa [keysOf] using KeysL.nil⟩
    rintro k s' ⟨h', tk, i, ys, es, m', rfl, hi', rfl, hit, F', hn', N', off', hK'⟩
    have hl' : h'.IsList ax vs := ⟨_, (N' (ax, W.listOf vs cax) (by simp [hax])).1, rfl, _, rfl⟩
    have offm := off'.mem
    by_cases hlt' : i < ws.length
    · refine Wl.item i _ _ _ (hW.1 ▸ hlt') ⟨hit, hl'⟩ fun v h₂ tk₂ hPv hst₂ hk₂ => ?_
      obtain ⟨⟨kv, dv⟩, hkd⟩ : ∃ q, ws[i]? = some q := ⟨_, List.getElem?_eq_getElem hlt'⟩
      obtain ⟨P, t1, t2, cP, e1, e2⟩ := hW.2 i kv dv hkd
      have hmem : (kv, dv) ∈ ws := List.mem_of_getElem? hkd
      rw [e1] at hPv
      cases hPv
      have hk2 : ∀ b o, b ≠ I → h'.get? b = some o → h₂.get? b = some o := fun b o hb e => hk₂ b o (by simpa using hb) e
      have N₂ : News h₀ env.locals h₂ ((I + 1, lst ys) :: (news ++ es)) := news_but N' hk₂ fun p hp => by
        rcases List.mem_cons.mp hp with rfl | hp
        · exact Ne.symm hID
        · exact (offm p hp).1
      obtain ⟨o₂, ho₂, hc₂, hd₂⟩ := id hst₂.1
      refine letOwned_other ho₂ hc₂ (by decide) ?_
      have F₂ : Fr h₀ env.locals h₂ m := fr_but F' hk₂ hIL hI₀
      have hlP : h₂.IsList P [Value.int kv t1, .int dv t2].toArray := ⟨_, (N₂ (P, W.listOf #[.int kv t1, .int dv t2] cP) (by simp [e2])).1, rfl, _, rfl⟩
      have hn₂ : h₂.Ns (I + 2) m' := hn'.at' fun o e => hk2 _ o (Ne.symm hIC) e
      obtain ⟨oC0, heC0, hoC0⟩ := ns_obj hn₂
      have N2' : News h₀ env.locals h₂ ((I, o₂) :: (I + 2, oC0) :: (I + 1, lst ys) :: (news ++ es)) := fun p hp => by
        rcases List.mem_cons.mp hp with rfl | hp
        · exact ⟨ho₂, Ne.symm hIL, hI₀⟩
        · rcases List.mem_cons.mp hp with rfl | hp
          · exact ⟨heC0, hCL, hC₀⟩
          · exact N₂ p hp
      refine kun_list (s := { s₁ with heap := h₂, toks := tk₂ }) F₂ N2' hlP hh rfl rfl fun h₅ F₅ N₅ => ?_
      refine assignInOrder_cons (wpAny_assign_Name (wpAny_storeName_local (lookup_relabel_local hx1) (hoC0.ns ((N₅ (I + 2, oC0) (by simp)).1)) (fun h₆ hn₆ hs₆ => ?_) (by simp [compEnvC, relabel, hkind])))
      refine assignInOrder_cons (wpAny_assign_Name (wpAny_storeName_local (lookup_relabel_local hx2) hn₆ (fun h₃ hn₃ hs₃ => ?_) (by simp [compEnvC, relabel, hkind])))
      refine assignInOrder_nil ?_
      obtain ⟨oC, heC, hoC⟩ := ns_obj hn₃
      have F₃ : Fr h₀ env.locals h₃ m := (F₅.change hs₆ hCL hC₀).change hs₃ hCL hC₀
      have N₃ : News h₀ env.locals h₃ ((I, o₂) :: (I + 2, oC) :: (I + 1, lst ys) :: (news ++ es)) := fun p hp => by
        have upp : ∀ q ∈ (I, o₂) :: (I + 2, oC0) :: (I + 1, lst ys) :: (news ++ es), q.1 ≠ I + 2 → h₃.get? q.1 = some q.2 ∧ q.1 ≠ env.locals ∧ h₀.get? q.1 = none := fun q hq e => ⟨hs₃.extBut _ _ e (hs₆.extBut _ _ e (N₅ q hq).1), (N₅ q hq).2⟩
        rcases List.mem_cons.mp hp with rfl | hp
        · exact upp _ (.head _) hIC
        · rcases List.mem_cons.mp hp with rfl | hp
          · exact ⟨heC, hCL, hC₀⟩
          · rcases List.mem_cons.mp hp with rfl | hp
            · exact upp _ (.tail _ (.tail _ (.head _))) hDC
            · exact upp _ (.tail _ (.tail _ (.tail _ hp))) (offm _ hp).2.1
      refine wpAny_mono (hrange kv dv t1 t2 I o₂ (I + 2) oC (I + 1) _ ys es h₃ _ _ hmem hoC (by simp [h12]) (by simp) F₃ N₃) (fun v s₄ h₄ => ?_) fun _ _ e => e
      obtain ⟨r, tr, ur, vr, h₄, tk₄, rfl, rfl, F₄, N₄, hR₄⟩ := h₄
      have hle := hrs kv dv hmem
      refine wpAny_pyIter_range hR₄ (hsm kv dv hmem) ?_
      have hrsz : Builtin.Range.rangeSize (lo kv) (hi kv) 1 = (((hi kv - lo kv).toNat : Nat) : Int) := rangeSize_nat _ _
      have hnew : ∀ p ∈ (I, o₂) :: (I + 2, oC) :: (I + 1, lst ys) :: (news ++ es), p.1 ≠ h₄.objs.size := fun p hp => Nat.ne_of_lt (Heap.lt_size (N₄ p hp).1)
      have up4 : ∀ b o, h₄.get? b = some o → (h₄.push { cls := .type "range_iterator", data := .fields #[rawInt (lo kv), rawInt (Builtin.Range.rangeSize (lo kv) (hi kv) 1), rawInt 1] }).get? b = some o := fun b o e => Heap.get?_push_of_some _ e
      refine keys_inner (s := s₁) (x2 := x2) (dv := dv) (t2 := t2) (oI := o₂) (I := I) (news := news) (ks₀ := keysOf lo hi wy (ws.take i)) (a := lo kv) (cnt := (hi kv - lo kv).toNat) (ys₀ := ys) (es₀ := es) (mC := fun n => if n = x2 then some (.int dv t2) else if n = x1 then some (.int kv t1) else m' n) wy hh hkind hy hyx ?_ ?_ ?_ (F₄.keeps up4) ?_ (by simp) ?_ off' ?_ hIC hID hCD ?_ ?_ ?_ ?_ ?_ hCL hC₀ hK' ?_
      · have := keysOf_len hc (wy := wy) (ws.take i)
        have q := hc kv
        have q2 : c * (ws.take i).length + c ≤ c * ws.length := by
          rw [← Nat.mul_succ, List.length_take, Nat.min_eq_left hi']
          exact Nat.mul_le_mul_left _ hlt'
        omega
      · intro k t oI2 oC' m₂ ys' es' h tk' E' hlo hhi a1 a2 a3 a4 a5
        exact helt kv k dv t t2 I o₂ h₄.objs.size oI2 (I + 2) oC' (I + 1) m₂ ys' es' h tk' E' hmem hlo (by omega) a1 a2 a3 a4 a5
      · show Heap.get? _ _ = some _
        rw [← hrsz]
        exact Heap.get?_push_size _ rfl
      · exact (hoC.ns (N₄ (I + 2, oC) (by simp)).1).keeps up4
      · intro p hp
        have : p ∈ (I, o₂) :: (I + 2, oC) :: (I + 1, lst ys) :: (news ++ es) := by
          rcases List.mem_cons.mp hp with rfl | hp
          · exact .head _
          · exact .tail _ (.tail _ hp)
        exact ⟨up4 _ _ (N₄ p this).1, (N₄ p this).2⟩
      · intro p hp
        exact hnew p (.tail _ (.tail _ (.tail _ hp)))
      · exact Ne.symm (hnew (I, o₂) (.head _))
      · exact Ne.symm (hnew (I + 2, oC) (.tail _ (.head _)))
      · exact Ne.symm (hnew (I + 1, lst ys) (.tail _ (.tail _ (.head _))))
      · exact Ne.symm (Nat.ne_of_lt F₄.ns.lt)
      · exact next_is_new F₄
      · intro h₉ tk₉ ys₉ es₉ m₉ F₉ hn₉ N₉ off₉ hK₉
        refine ⟨ws.length + 1 - (i + 1), by omega, h₉, tk₉, i + 1, ys₉, es₉, m₉, rfl, hlt', rfl, ⟨o₂, (N₉ (I, o₂) (.head _)).1, hc₂, hd₂⟩, F₉, hn₉, fun p hp => N₉ p (.tail _ hp), off₉, ?_⟩
        rw [List.take_add_one, hkd]
        exact keysOf_snoc lo hi wy (ws.take i) kv dv ▸ hK₉
    · obtain rfl : i = ws.length := Nat.le_antisymm hi' (Nat.not_lt.mp hlt')
      refine Wl.done _ _ _ ⟨hW.1 ▸ hit, hl'⟩ fun h₂ tk₂ hk₂ => ?_
      have hk2 : ∀ b o, b ≠ I → h'.get? b = some o → h₂.get? b = some o := fun b o hb e => hk₂ b o (by simpa using hb) e
      have F₂ : Fr h₀ env.locals h₂ m := fr_but F' hk₂ hIL hI₀
      have N₂ : News h₀ env.locals h₂ ((I + 1, lst ys) :: (news ++ es)) := news_but N' hk₂ fun p hp => by
        rcases List.mem_cons.mp hp with rfl | hp
        · exact Ne.symm hID
        · exact (offm p hp).1
      have hn₂ : h₂.Ns (I + 2) m' := hn'.at' fun o e => hk2 _ o (Ne.symm hIC) e
      show wpAny _ A (assign (.Name z pz) env (.ref (I + 1))) _ _ _
      refine wpAny_assign_Name (wpAny_storeName_local hz F₂.ns (fun h₃ hn₃ hs₃ => ?_) hp)
      have hL₀ : h₀.get? env.locals = none := Heap.get?_none_of_le F'.above
      have F₃ : Fr h₀ env.locals h₃ (fun q => if q = z then some (.ref (I + 1)) else m q) := ⟨hn₃, fun b o e => hs₃.extBut b o (fun q => by rw [q, hL₀] at e; cases e) (F₂.keep b o e), F₂.above⟩
      refine ⟨m', hn₂.sameBut hs₃ hCL, fun h'' hs'' => fin ys es (I + 1) h'' _ (by rw [List.take_length] at hK'; exact hK') (F₃.change hs'' hCL hC₀) (fun p hp => ?_) off'.one⟩
      have q : h₃.get? p.1 = some p.2 := hs₃.extBut _ _ (N₂ p hp).2.1 (N₂ p hp).1
      refine ⟨hs''.extBut _ _ ?_ q, (N₂ p hp).2⟩
      rcases List.mem_cons.mp hp with rfl | hp
      · exact hDC
      · exact (offm p hp).2.1
  exact codeAny_compStart_list (loop _ rfl) (hself _ _ _ hIl (hl.at fun o e => old _ _ (up _ _ e)) (loop _ rfl))
end
end Mine
end

section
open PySem PySem.W PySem.Calls PySem.Spec PyProof.Rows
namespace Mine
theorem sgnI_gt {a b : Int} (h : b < a) : sgnI a b = 1 := by
  unfold sgnI
  rw [decide_eq_true (show a > b from h), decide_eq_false (show ¬ a < b by omega (splitDisjunctions := true))]
  decide
theorem sgnI_lt {a b : Int} (h : a < b) : sgnI a b = -1 := by
  unfold sgnI
  rw [decide_eq_false (show ¬ a > b by omega (splitDisjunctions := true)), decide_eq_true h]
  decide
theorem sgnI_eq {a b : Int} (h : a = b) : sgnI a b = 0 := by
  unfold sgnI
  rw [decide_eq_false (show ¬ a > b by omega (splitDisjunctions := true)), decide_eq_false (show ¬ a < b by omega (splitDisjunctions := true))]
  decide
theorem sgnI_swap (a b : Int) : sgnI a b = - sgnI b a := by
  rcases Int.lt_trichotomy a b with h | h | h
  · rw [sgnI_lt h, sgnI_gt h]
  · rw [sgnI_eq h, sgnI_eq h.symm]; rfl
  · rw [sgnI_gt h, sgnI_lt h]; rfl
/-- two rows by turns -/
noncomputable def altC : Int → List Int → List Int → Int
  | s, x :: xs, y :: ys => if x < y then -s else if y < x then s else altC (-s) xs ys
  | _, _, _ => 0
theorem altC_neg : ∀ (s : Int) (xs ys : List Int), altC (-s) xs ys = - altC s xs ys
  | s, x :: xs, y :: ys => by
    unfold altC
    rw [altC_neg (-s) xs ys]
    split
    · rfl
    · split
      · rfl
      · rfl
  | s, [], ys => by simp [altC]
  | s, x :: xs, [] => by simp [altC]
theorem altC_self : ∀ (s : Int) (xs : List Int), altC s xs xs = 0
  | s, x :: xs => by
    unfold altC
    rw [if_neg (by omega (splitDisjunctions := true)), if_neg (by omega (splitDisjunctions := true)), altC_self (-s) xs]
  | s, [] => by simp [altC]
noncomputable def quoS (u d : Int) : List Int := quoF (d.toNat + 1) u d
noncomputable def padQ (n : Nat) (l : List Int) : List Int := l ++ List.replicate (n - l.length) 1000000
theorem padQ_nil (n : Nat) : padQ (n + 1) [] = 1000000 :: padQ n [] := by simp [padQ, List.replicate_succ]
theorem padQ_cons (n : Nat) (x : Int) (l : List Int) : padQ (n + 1) (x :: l) = x :: padQ n l := by simp [padQ]
theorem quoS_zero (u : Int) : quoS u 0 = [] := by simp [quoS, quoF]
theorem quoS_step {u d : Int} (hd : 1 ≤ d) : quoS u d = u.fdiv d :: quoS d (u.fmod d) := quoF_step hd
theorem fdm (u d : Int) : u = d * u.fdiv d + u.fmod d := by
  have := Int.fmod_add_mul_fdiv u d
  omega (splitDisjunctions := true)
theorem fdiv_small {u d : Int} (hu : 0 ≤ u) (hd : 1 ≤ d) : 0 ≤ u.fdiv d ∧ u.fdiv d ≤ u := by
  rw [Int.fdiv_eq_ediv_of_nonneg u (by omega (splitDisjunctions := true))]
  exact ⟨Int.ediv_nonneg hu (by omega (splitDisjunctions := true)), Int.ediv_le_self d hu⟩
noncomputable def AltQ (n : Nat) : Prop := ∀ (u d u' d' : Int), 0 < u → 0 < u' → 0 ≤ d → 0 ≤ d' → u < 1000000 → u' < 1000000 → d < 1000000 → d' < 1000000 → (quoS u d).length ≤ n → (quoS u' d').length ≤ n →
    altC (-1) (padQ n (quoS u d)) (padQ n (quoS u' d')) = sgnI (d * u') (d' * u)
theorem alt_quo_step (n : Nat) (ih : ∀ m, m + 1 = n → AltQ m) : AltQ n := by
  intro u d u' d' hu hu' hd hd' bu bu' bd bd' hl hl'
  rcases Int.lt_or_eq_of_le hd with dp | d0
  · rcases Int.lt_or_eq_of_le hd' with dp' | d0'
    · rw [quoS_step dp] at hl ⊢
      rw [quoS_step dp'] at hl' ⊢
      cases n with
      | zero => simp at hl
      | succ n =>
        rw [padQ_cons, padQ_cons]
        have e := fdm u d
        have e' := fdm u' d'
        have b := fmod_bound (x := u) (b := d) dp
        have b' := fmod_bound (x := u') (b := d') dp'
        have key := ih n rfl d (u.fmod d) d' (u'.fmod d') dp dp' b.1 b'.1 bd bd' (by omega (splitDisjunctions := true)) (by omega (splitDisjunctions := true)) (by simpa using hl) (by simpa using hl')
        generalize u.fmod d = r at *
        generalize u'.fmod d' = r' at *
        generalize u.fdiv d = q at *
        generalize u'.fdiv d' = q' at *
        unfold altC
        by_cases h1 : q < q'
        · rw [if_pos h1, sgnI_gt]
          · rfl
          · -- d' * u < d * u'
            subst e e'
            have h2 : d * d' * (q + 1) ≤ d * d' * q' := Int.mul_le_mul_of_nonneg_left (by omega (splitDisjunctions := true)) (Int.mul_nonneg hd hd')
            have h3 : d' * r < d' * d := Int.mul_lt_mul_of_pos_left b.2 dp'
            have h4 : 0 ≤ d * r' := Int.mul_nonneg hd b'.1
            have x1 : d' * (d * q + r) = d * d' * q + d' * r := by rw [Int.mul_add, ← Int.mul_assoc, Int.mul_comm d' d]
            have x2 : d * (d' * q' + r') = d * d' * q' + d * r' := by rw [Int.mul_add, ← Int.mul_assoc]
            rw [Int.mul_add, Int.mul_one] at h2
            rw [Int.mul_comm d' d] at h3
            omega (splitDisjunctions := true)
        · by_cases h2 : q' < q
          · rw [if_neg h1, if_pos h2, sgnI_lt]
            subst e e'
            have h3 : d * d' * (q' + 1) ≤ d * d' * q := Int.mul_le_mul_of_nonneg_left (by omega (splitDisjunctions := true)) (Int.mul_nonneg hd hd')
            have h4 : d * r' < d * d' := Int.mul_lt_mul_of_pos_left b'.2 dp
            have h5 : 0 ≤ d' * r := Int.mul_nonneg hd' b.1
            have x1 : d' * (d * q + r) = d * d' * q + d' * r := by rw [Int.mul_add, ← Int.mul_assoc, Int.mul_comm d' d]
            have x2 : d * (d' * q' + r') = d * d' * q' + d * r' := by rw [Int.mul_add, ← Int.mul_assoc]
            rw [Int.mul_add, Int.mul_one] at h3
            omega (splitDisjunctions := true)
          · have h3 : q = q' := by omega (splitDisjunctions := true)
            rw [if_neg h1, if_neg h2, altC_neg, key, sgnI_swap (d * u')]
            subst h3 e e'
            congr 1
            have x1 : d' * (d * q + r) = d * d' * q + r * d' := by rw [Int.mul_add, ← Int.mul_assoc, Int.mul_comm d' d, Int.mul_comm d' r]
            have x2 : d * (d' * q + r') = d * d' * q + r' * d := by rw [Int.mul_add, ← Int.mul_assoc, Int.mul_comm d r']
            rw [x1, x2]
            rcases Int.lt_trichotomy (r * d') (r' * d) with h | h | h
            · rw [sgnI_lt h, sgnI_lt (by omega (splitDisjunctions := true))]
            · rw [sgnI_eq h, sgnI_eq (by omega (splitDisjunctions := true))]
            · rw [sgnI_gt h, sgnI_gt (by omega (splitDisjunctions := true))]
    · subst d0'
      rw [quoS_step dp] at hl ⊢
      rw [quoS_zero]
      cases n with
      | zero => simp at hl
      | succ n =>
        rw [padQ_cons, padQ_nil]
        unfold altC
        have := fdiv_small (u := u) (d := d) (by omega (splitDisjunctions := true)) dp
        rw [if_pos (by omega (splitDisjunctions := true)), sgnI_gt (by rw [Int.zero_mul]; exact Int.mul_pos dp hu')]
        rfl
  · subst d0
    rcases Int.lt_or_eq_of_le hd' with dp' | d0'
    · rw [quoS_step dp'] at hl' ⊢
      rw [quoS_zero]
      cases n with
      | zero => simp at hl'
      | succ n =>
        rw [padQ_cons, padQ_nil]
        unfold altC
        have := fdiv_small (u := u') (d := d') (by omega (splitDisjunctions := true)) dp'
        rw [if_neg (by omega (splitDisjunctions := true)), if_pos (by omega (splitDisjunctions := true)), sgnI_lt (by rw [Int.zero_mul]; exact Int.mul_pos dp' hu)]
    · subst d0'
      rw [quoS_zero, quoS_zero, altC_self, sgnI_eq (by simp)]
theorem alt_quo (n : Nat) : AltQ n := by
  induction n with
  | zero => exact alt_quo_step 0 fun m h => nomatch h
  | succ n ih => exact alt_quo_step (n + 1) fun m h => by cases h; exact ih
theorem quoRow_pad (u d : Int) : quoRow u d = padQ 10 (quoS u d) := rfl
theorem quo_len_tab : ∀ u, u < 65 → ∀ d, d < u + 1 → (quoF (d + 1) (u : Nat) (d : Nat)).length ≤ 10 := by decide +kernel
theorem quoS_len {u d : Int} (hd : 0 ≤ d) (hdu : d ≤ u) (hu : u ≤ 64) : (quoS u d).length ≤ 10 := by
  have := quo_len_tab u.toNat (by omega (splitDisjunctions := true)) d.toNat (by omega (splitDisjunctions := true))
  have e1 : ((u.toNat : Nat) : Int) = u := by omega (splitDisjunctions := true)
  have e2 : ((d.toNat : Nat) : Int) = d := by omega (splitDisjunctions := true)
  rw [e1, e2] at this
  exact this
theorem quoRow_len10 {u d : Int} (hd : 0 ≤ d) (hdu : d ≤ u) (hu : u ≤ 64) : (quoRow u d).length = 10 := by
  have := quoS_len hd hdu hu
  rw [quoRow_pad, padQ, List.length_append, List.length_replicate]
  omega (splitDisjunctions := true)
/-- a row of quotients tells the order of the shares -/
theorem alt_row {u d u' d' : Int} (hu : 0 < u) (hu' : 0 < u') (hd : 0 ≤ d) (hd' : 0 ≤ d') (h1 : d ≤ u) (h1' : d' ≤ u') (h2 : u ≤ 64) (h2' : u' ≤ 64) : altC (-1) (quoRow u d) (quoRow u' d') = sgnI (d * u') (d' * u) := by
  rw [quoRow_pad, quoRow_pad]
  exact alt_quo 10 u d u' d' hu hu' hd hd' (by omega (splitDisjunctions := true)) (by omega (splitDisjunctions := true)) (by omega (splitDisjunctions := true)) (by omega (splitDisjunctions := true)) (quoS_len hd h1 h2) (quoS_len hd' h1' h2')
end Mine
end

section
open PySem
set_option maxRecDepth 100000
namespace Mine
/-- the float x is n / m (as 2^-1074ths), to within a little -/
noncomputable def chk (x : UInt64) (n m : Nat) : Bool :=
  match Float64.decode x with
  | .fin false k e => decide (-1074 ≤ e) && decide (k * 2 ^ (e + 1074).toNat * m ≤ n * 2 ^ 1074 + 2 ^ 1040) && decide (n * 2 ^ 1074 ≤ k * 2 ^ (e + 1074).toNat * m + 2 ^ 1040)
  | _ => false
structure IsR (x : UInt64) (n m : Nat) : Prop where
  it : ∃ k e, Float64.decode x = .fin false k e ∧ -1074 ≤ e ∧ k * 2 ^ (e + 1074).toNat * m ≤ n * 2 ^ 1074 + 2 ^ 1060 ∧ n * 2 ^ 1074 ≤ k * 2 ^ (e + 1074).toNat * m + 2 ^ 1060
theorem scale_le {a b c t : Nat} (h : a ≤ b + c) : a * t ≤ b * t + c * t := by
  rw [← Nat.add_mul]; exact Nat.mul_le_mul_right _ h
theorem chk_isR {x : UInt64} {n m : Nat} (t : Nat) (ht : t ≤ 1000) (h : chk x n m = true) : IsR x (n * t) (m * t) := by
  unfold chk at h
  split at h
  · rename_i k e hd
    simp only [Bool.and_eq_true, decide_eq_true_eq] at h
    obtain ⟨⟨h1, h2⟩, h3⟩ := h
    refine ⟨k, e, hd, h1, ?_, ?_⟩
    · have q := scale_le (t := t) h2
      have z : 2 ^ 1040 * t ≤ 2 ^ 1060 := Nat.le_trans (Nat.mul_le_mul_left _ ht) (by decide +kernel)
      rw [Nat.mul_right_comm n, ← Nat.mul_assoc]
      omega (splitDisjunctions := true)
    · have q := scale_le (t := t) h3
      have z : 2 ^ 1040 * t ≤ 2 ^ 1060 := Nat.le_trans (Nat.mul_le_mul_left _ ht) (by decide +kernel)
      rw [Nat.mul_right_comm n, ← Nat.mul_assoc]
      omega (splitDisjunctions := true)
  · cases h
theorem exp_split {e g : Int} (h : -1074 ≤ g) (h1 : g ≤ e) : (e + 1074).toNat = (e - g).toNat + (g + 1074).toNat := by omega (splitDisjunctions := true)
theorem cmp_fin {x y : UInt64} {k l : Nat} {e f : Int} (hx : Float64.decode x = .fin false k e) (hy : Float64.decode y = .fin false l f) (he : -1074 ≤ e) (hf : -1074 ≤ f)
    (h : k * 2 ^ (e + 1074).toNat < l * 2 ^ (f + 1074).toNat) : Float64.cmp x y = some .lt := by
  unfold Float64.cmp
  rw [hx, hy]
  simp only [Float64.align, Float64.sgn, if_false, Bool.false_eq_true]
  generalize hg : min e f = g
  have g0 : -1074 ≤ g := by rw [← hg]; exact Int.le_min.mpr ⟨he, hf⟩
  have g1 : g ≤ e := by rw [← hg]; exact Int.min_le_left _ _
  have g2 : g ≤ f := by rw [← hg]; exact Int.min_le_right _ _
  have e1 := exp_split g0 g1
  have e2 := exp_split g0 g2
  rw [e1, e2, Nat.pow_add, Nat.pow_add, ← Nat.mul_assoc, ← Nat.mul_assoc] at h
  have h' := Nat.lt_of_mul_lt_mul_right h
  congr 1
  exact Int.compare_eq_lt.mpr (by exact_mod_cast h')
theorem isR_lt {x y : UInt64} {n m n' m' : Nat} (X : IsR x n m) (Y : IsR y n' m') (hm : m ≤ 1000) (hm' : m' ≤ 1000) (h : n * m' < n' * m) : Float64.cmp x y = some .lt := by
  obtain ⟨k, e, hx, he, h1, _⟩ := X.it
  obtain ⟨l, f, hy, hf, _, h2⟩ := Y.it
  refine cmp_fin hx hy he hf ?_
  have hS : (2 : Nat) ^ 1074 = 16384 * 2 ^ 1060 := by decide +kernel
  have hE : 0 < (2 : Nat) ^ 1060 := by decide +kernel
  rw [hS] at h1 h2
  generalize (2 : Nat) ^ 1060 = ε at *
  generalize k * 2 ^ (e + 1074).toNat = v at *
  generalize l * 2 ^ (f + 1074).toNat = v' at *
  clear hx hy he hf hS X Y
  rcases Nat.lt_or_ge v v' with q | q
  · exact q
  · exfalso
    have a1 : v' * m' * m ≤ v * m * m' := by
      rw [Nat.mul_right_comm]
      exact Nat.mul_le_mul_right _ (Nat.mul_le_mul_right _ q)
    have a2 := Nat.mul_le_mul_right m' h1
    have a3 := Nat.mul_le_mul_right m h2
    have a4 : (n * m' + 1) * (16384 * ε) ≤ n' * m * (16384 * ε) := Nat.mul_le_mul_right _ h
    have b1 : n * (16384 * ε) * m' = n * m' * (16384 * ε) := Nat.mul_right_comm _ _ _
    have b2 : n' * (16384 * ε) * m = n' * m * (16384 * ε) := Nat.mul_right_comm _ _ _
    have c1 : ε * m' ≤ ε * 1000 := Nat.mul_le_mul_left _ hm'
    have c2 : ε * m ≤ ε * 1000 := Nat.mul_le_mul_left _ hm
    rw [Nat.add_mul, b1] at a2
    rw [Nat.add_mul, b2] at a3
    rw [Nat.add_mul] at a4
    generalize n * m' * (16384 * ε) = A at *
    generalize n' * m * (16384 * ε) = B at *
    generalize v' * m' * m = C at *
    generalize v * m * m' = F at *
    omega (splitDisjunctions := true)
theorem isR_nan {x : UInt64} {n m : Nat} (X : IsR x n m) : Float64.isNaN x = false := by
  obtain ⟨k, e, hx, _⟩ := X.it
  unfold Float64.isNaN
  rw [hx]
theorem isR_eq {x : UInt64} {n m : Nat} (X : IsR x n m) : (Float64.cmp x x == some .eq) = true := by
  rw [PySem.Flt.cmp_self, isR_nan X]; rfl
end Mine
end

section
open PySem
set_option maxRecDepth 100000
namespace Mine
noncomputable def Dv (n m : Nat) : UInt64 := Float64.div (fN n) (fN m)
theorem D_zero : ∀ m, m < 64 → Dv 0 (m + 1) = 0 := by decide +kernel
theorem D_right {n m : Nat} (h : n ≤ m) (h1 : 1 ≤ m) (h2 : m ≤ 64) : Float64.Right (Dv n m) false (n * 2 ^ 1074) m := by
  obtain ⟨_, _, d, v⟩ := fin_fN (n := n) (by omega)
  obtain ⟨k, _, d', v'⟩ := fin_fN (n := m) (by omega)
  have hp : 0 < (2 : Nat) ^ 1068 := Nat.two_pow_pos _
  have hk : k ≠ 0 := fun z => by
    have := Float64.val_eq d'
    rw [v', z, Nat.zero_mul] at this
    have := Nat.mul_pos h1 hp
    simp [Float64.sgn] at *
    omega
  have q := Float64.div_right d d' hk
  rw [v, v', Int.natAbs_natCast, Int.natAbs_natCast] at q
  exact right_scale q (Nat.mul_pos h1 hp) h1 (by ac_rfl)
theorem D_eq {n m n' m' : Nat} (h : n ≤ m) (h1 : 1 ≤ m) (h2 : m ≤ 64) (h' : n' ≤ m') (h1' : 1 ≤ m') (h2' : m' ≤ 64) (e : n * m' = n' * m) : Dv n m = Dv n' m' :=
  right_unique (right_scale (D_right h h1 h2) h1 h1' (by rw [Nat.mul_right_comm, e, Nat.mul_right_comm])) (D_right h' h1' h2') h1'
theorem scale_at {m : Nat} : ∀ (f n : Nat), n ≤ m → 1 ≤ m → m ≤ n * 2 ^ f → ∃ j, j ≤ f ∧ m ≤ n * 2 ^ j ∧ n * 2 ^ j < 2 * m
  | 0, n, a, c, b => ⟨0, Nat.le_refl _, b, by omega⟩
  | f + 1, n, a, c, b => by
    rcases Nat.lt_or_ge (n * 2 ^ f) m with q | q
    · exact ⟨f + 1, Nat.le_refl _, b, by rw [Nat.pow_succ, ← Nat.mul_assoc]; omega⟩
    · obtain ⟨j, x, y⟩ := scale_at f n a c q
      exact ⟨j, Nat.le_succ_of_le x, y⟩
theorem near_share {n m j : Nat} (h1 : 1 ≤ m) (h2 : m ≤ 64) (hj : j ≤ 6) (a : m ≤ n * 2 ^ j) (b : n * 2 ^ j < 2 * m) : ∃ t, Float64.dist (n * 2 ^ 1074) (m * Float64.V t) ≤ 2 ^ 1060 := by
  have e52 : n * 2 ^ (52 + j) = n * 2 ^ j * 2 ^ 52 := by rw [Nat.pow_add]; ac_rfl
  have lo : 2 ^ 52 ≤ n * 2 ^ (52 + j) / m := (Nat.le_div_iff_mul_le h1).mpr (by rw [e52, Nat.mul_comm]; exact Nat.mul_le_mul_right _ a)
  have hi : n * 2 ^ (52 + j) / m < 2 ^ 53 := (Nat.div_lt_iff_lt_mul h1).mpr (by rw [e52]; exact Nat.lt_of_lt_of_eq (Nat.mul_lt_mul_of_pos_right b (Nat.two_pow_pos 52)) (Nat.mul_right_comm 2 m (2 ^ 52)))
  refine ⟨(1022 - j) * 2 ^ 52 + n * 2 ^ (52 + j) / m, ?_⟩
  rw [Float64.V_at (Nat.le_of_lt hi) (.inl lo), show 1074 = (52 + j) + (1022 - j) by omega, Nat.pow_add 2 (52 + j), ← Nat.mul_assoc, ← Nat.mul_assoc]
  have d := Nat.div_add_mod (n * 2 ^ (52 + j)) m
  have r := Nat.mod_lt (n * 2 ^ (52 + j)) h1
  have P : 2 ^ (1022 - j) ≤ 2 ^ 1022 := Nat.pow_le_pow_right (by decide) (Nat.sub_le _ _)
  have E : 64 * 2 ^ 1022 ≤ 2 ^ 1060 := by decide +kernel
  have k : n * 2 ^ (52 + j) * 2 ^ (1022 - j) = m * (n * 2 ^ (52 + j) / m) * 2 ^ (1022 - j) + n * 2 ^ (52 + j) % m * 2 ^ (1022 - j) := by rw [← Nat.add_mul, d]
  rw [k]
  unfold Float64.dist
  rw [Nat.add_sub_cancel_left, Nat.sub_eq_zero_of_le (Nat.le_add_right _ _)]
  exact Nat.le_trans (Nat.mul_le_mul (Nat.le_trans (Nat.le_of_lt r) h2) P) E
theorem D_isR {n m : Nat} (h : n ≤ m) (h1 : 1 ≤ m) (h2 : m ≤ 64) : IsR (Dv n m) n m := by
  obtain ⟨t, e, g1, g2, g3⟩ := D_right h h1 h2
  have q : t < Float64.infMag := by
    rcases Nat.lt_or_ge t Float64.infMag with q | q
    · exact q
    · exfalso
      have x := g2.mp (Nat.le_antisymm g1 q)
      have y : 2 * (n * 2 ^ 1074) ≤ 128 * 2 ^ 1074 := by rw [← Nat.mul_assoc]; exact Nat.mul_le_mul_right _ (by omega)
      have z : 1 * ((2 ^ 54 - 1) * 2 ^ 2045) ≤ m * ((2 ^ 54 - 1) * 2 ^ 2045) := Nat.mul_le_mul_right _ h1
      exact absurd (Nat.le_trans z (Nat.le_trans x y)) (by decide +kernel)
  have far : Float64.dist (n * 2 ^ 1074) (m * Float64.V t) ≤ 2 ^ 1060 := by
    rcases Nat.eq_zero_or_pos n with z | z
    · subst z
      refine Nat.le_trans (g3 q 0).1 ?_
      rw [Float64.V_zero, Nat.zero_mul, Nat.mul_zero]
      exact Nat.zero_le _
    · obtain ⟨j, hj, a, b⟩ := scale_at 6 n h h1 (by omega)
      obtain ⟨u, hu⟩ := near_share h1 h2 hj a b
      exact Nat.le_trans (g3 q u).1 hu
  obtain ⟨k, f, d, v⟩ := Float64.decode_pack false q
  rw [e]
  refine ⟨k, f, d, Float64.decode_ge d, ?_⟩
  rw [v, Nat.mul_comm _ m]
  unfold Float64.dist at far
  exact ⟨Nat.sub_le_iff_le_add'.mp (Nat.le_trans (Nat.le_add_left _ _) far), Nat.sub_le_iff_le_add'.mp (Nat.le_trans (Nat.le_add_right _ _) far)⟩
theorem sgnF_lt {x y : UInt64} (h : Float64.cmp x y = some .lt) : sgnF x y = -1 := by
  unfold sgnF; rw [h]; decide
theorem sgnF_gt {x y : UInt64} (h : Float64.cmp y x = some .lt) : sgnF x y = 1 := by
  unfold sgnF; rw [PySem.Flt.cmp_swap y x, h]; decide
theorem sgnF_eq {x : UInt64} {n m : Nat} (X : IsR x n m) : sgnF x x = 0 := by
  have := isR_eq X
  rw [beq_iff_eq] at this
  unfold sgnF; rw [this]; decide
/-- floats near two shares stand as the shares stand -/
theorem sgnF_of {x y : UInt64} {n m n' m' : Nat} (X : IsR x n m) (Y : IsR y n' m') (hm : m ≤ 1000) (hm' : m' ≤ 1000) (he : n * m' = n' * m → x = y) : sgnF x y = sgnI ((n : Int) * m') ((n' : Int) * m) := by
  rcases Nat.lt_trichotomy (n * m') (n' * m) with h | h | h
  · rw [sgnF_lt (isR_lt X Y hm hm' h), sgnI_lt (by exact_mod_cast h)]
  · have := he h
    subst this
    rw [sgnF_eq X, sgnI_eq (by exact_mod_cast h)]
  · rw [sgnF_gt (isR_lt Y X hm' hm h), sgnI_gt (by exact_mod_cast h)]
theorem sgn_D {n m n' m' : Nat} (h : n ≤ m) (h1 : 1 ≤ m) (h2 : m ≤ 64) (h' : n' ≤ m') (h1' : 1 ≤ m') (h2' : m' ≤ 64) : sgnF (Dv n m) (Dv n' m') = sgnI ((n : Int) * m') ((n' : Int) * m) :=
  sgnF_of (D_isR h h1 h2) (D_isR h' h1' h2') (by omega) (by omega) fun e => D_eq h h1 h2 h' h1' h2' e
/-- the value -/
theorem V_chk : ∀ n, n < 65 → chk (fN n) n 64 = true := by decide +kernel
theorem V_isR {n : Nat} (h : n ≤ 64) : IsR (fN n) n 64 := by simpa using chk_isR 1 (by decide) (V_chk n (by omega))
theorem sgn_V {n n' : Nat} (h : n ≤ 64) (h' : n' ≤ 64) : sgnF (fN n) (fN n') = sgnI (n : Int) (n' : Int) := by
  rw [sgnF_of (V_isR h) (V_isR h') (by decide) (by decide) (fun e => by rw [Nat.eq_of_mul_eq_mul_right (by decide) e])]
  rcases Nat.lt_trichotomy n n' with q | q | q
  · rw [sgnI_lt (by omega), sgnI_lt (by omega)]
  · rw [sgnI_eq (by omega), sgnI_eq (by omega)]
  · rw [sgnI_gt (by omega), sgnI_gt (by omega)]
/-- the lightness -/
noncomputable def Lv (n : Nat) : UInt64 := Float64.div (fN n) 4611686018427387904
theorem L_chk : ∀ n, n < 129 → chk (Lv n) n 128 = true := by decide +kernel
theorem L_isR {n : Nat} (h : n ≤ 128) : IsR (Lv n) n 128 := by simpa using chk_isR 1 (by decide) (L_chk n (by omega))
theorem sgn_L {n n' : Nat} (h : n ≤ 128) (h' : n' ≤ 128) : sgnF (Lv n) (Lv n') = sgnI (n : Int) (n' : Int) := by
  rw [sgnF_of (L_isR h) (L_isR h') (by decide) (by decide) (fun e => by rw [Nat.eq_of_mul_eq_mul_right (by decide) e])]
  rcases Nat.lt_trichotomy n n' with q | q | q
  · rw [sgnI_lt (by omega), sgnI_lt (by omega)]
  · rw [sgnI_eq (by omega), sgnI_eq (by omega)]
  · rw [sgnI_gt (by omega), sgnI_gt (by omega)]
end Mine
end

section
open PySem PySem.W PySem.Calls PySem.Spec PyProof.Rows
set_option maxRecDepth 100000
set_option maxHeartbeats 4000000
namespace Mine
noncomputable def H6 (x : UInt64) : UInt64 := (Float64.divmod (Float64.div x 4618441417868443648) 4607182418800017408).2
noncomputable def hueX (s a b : Nat) : UInt64 := match s with
  | 0 => Float64.sub (Dv b b) (Dv (b - a) b)
  | 1 => Float64.sub (Float64.add 4611686018427387904 (Dv a b)) (Dv b b)
  | 2 => Float64.sub (Float64.add 4611686018427387904 (Dv b b)) (Dv (b - a) b)
  | 3 => Float64.sub (Float64.add 4616189618054758400 (Dv a b)) (Dv b b)
  | 4 => Float64.sub (Float64.add 4616189618054758400 (Dv b b)) (Dv (b - a) b)
  | _ => Float64.sub (Dv a b) (Dv b b)
noncomputable def hueS (s a b : Nat) : UInt64 := H6 (hueX s a b)
theorem H_chk : ∀ s, s < 6 → ∀ b, b < 9 → ∀ a, a < b + 1 → chk (hueS s a (b + 1)) (s * (b + 1) + a) (6 * (b + 1)) = true := by decide +kernel
theorem hue_eq {s a b a' b' : Nat} (h : a ≤ b) (h1 : 1 ≤ b) (h2 : b ≤ 64) (h' : a' ≤ b') (h1' : 1 ≤ b') (h2' : b' ≤ 64) (e : a * b' = a' * b) : hueS s a b = hueS s a' b' := by
  have e1 := D_eq (n := b) (m := b) (n' := b') (m' := b') (Nat.le_refl _) h1 h2 (Nat.le_refl _) h1' h2' (Nat.mul_comm _ _)
  have e2 := D_eq h h1 h2 h' h1' h2' e
  have e3 := D_eq (n := b - a) (m := b) (n' := b' - a') (m' := b') (Nat.sub_le _ _) h1 h2 (Nat.sub_le _ _) h1' h2' (by rw [Nat.sub_mul, Nat.sub_mul, e, Nat.mul_comm])
  unfold hueS hueX
  split <;> simp only [e1, e2, e3]
theorem cornA : Float64.sub (Dv 1 1) (Dv 0 1) = hueX 1 0 1 := by decide +kernel
theorem cornB : Float64.sub (Float64.add 4611686018427387904 (Dv 1 1)) (Dv 0 1) = hueX 3 0 1 := by decide +kernel
theorem D_one {b : Nat} (h1 : 1 ≤ b) (h2 : b ≤ 64) : Dv b b = Dv 1 1 := D_eq (Nat.le_refl _) h1 h2 (Nat.le_refl _) (Nat.le_refl _) (by decide) (Nat.mul_comm _ _)
theorem D_nil {b : Nat} (h1 : 1 ≤ b) (h2 : b ≤ 64) : Dv 0 b = Dv 0 1 := D_eq (Nat.zero_le _) h1 h2 (Nat.zero_le _) (Nat.le_refl _) (by decide) (by simp)
theorem corn1 {b : Nat} (h1 : 1 ≤ b) (h2 : b ≤ 64) : Float64.sub (Dv b b) (Dv 0 b) = hueX 1 0 b := by
  have e : hueX 1 0 b = Float64.sub (Float64.add 4611686018427387904 (Dv 0 b)) (Dv b b) := rfl
  rw [e, D_one h1 h2, D_nil h1 h2]; exact cornA
theorem corn3 {b : Nat} (h1 : 1 ≤ b) (h2 : b ≤ 64) : Float64.sub (Float64.add 4611686018427387904 (Dv b b)) (Dv 0 b) = hueX 3 0 b := by
  have e : hueX 3 0 b = Float64.sub (Float64.add 4616189618054758400 (Dv 0 b)) (Dv b b) := rfl
  rw [e, D_one h1 h2, D_nil h1 h2]; exact cornB
theorem hueF_N {r g b hi lo : Nat} (h1 : r ≤ hi) (h2 : g ≤ hi) (h3 : b ≤ hi) (h4 : lo ≤ hi) (h5 : hi ≤ 64) :
    hueF (fN r) (fN g) (fN b) (fN hi) (fN lo) = H6 (if r = hi then Float64.sub (Dv (hi - b) (hi - lo)) (Dv (hi - g) (hi - lo)) else if g = hi then Float64.sub (Float64.add 4611686018427387904 (Dv (hi - r) (hi - lo))) (Dv (hi - b) (hi - lo))
      else Float64.sub (Float64.add 4616189618054758400 (Dv (hi - g) (hi - lo))) (Dv (hi - r) (hi - lo))) := by
  unfold hueF
  rw [cmp_eq_N (by omega) (by omega), cmp_eq_N (by omega) (by omega), t_sub hi (by omega) b (by omega), t_sub hi (by omega) r (by omega), t_sub hi (by omega) g (by omega), t_sub hi (by omega) lo (by omega)]
  simp only [decide_eq_true_eq]
  rfl
noncomputable def Lin (R G B a : Int) : Prop := ∃ u v : Int, a = u * (R - G) + v * (G - B)
structure HueAt (r g b s a d : Nat) : Prop where
  way : wayF (r : Int) (g : Int) (b : Int) = ((s : Int), (a : Int), (d : Int))
  s6 : s < 6
  ad : a < d
  d64 : d ≤ 64
  la : Lin r g b a
  ld : Lin r g b d
  hue : hueF (fN r) (fN g) (fN b) (fN (max r (max g b))) (fN (min r (min g b))) = hueS s a d
theorem hue_c0 {r g b : Nat} (hr : r ≤ 64) (hg : g ≤ 64) (hb : b ≤ 64) (h0 : g < r) (h1 : b < g) : HueAt r g b 0 (g - b) (r - b) := by
  have hh : Hid ((b : Int) = min (r : Int) (min (g : Int) (b : Int)) ∧ (r : Int) = max (r : Int) (max (g : Int) (b : Int))) := ⟨⟨by omega, by omega⟩⟩
  have e1 : leadI (r : Int) (g : Int) (b : Int) = sixthOf true false false := lead_eq hh (pickT (by omega)) (pickF (by omega)) (pickF (by omega))
  have e2 : bothI (r : Int) (g : Int) (b : Int) = sixthOf true true false := both_eq hh (pickT (by omega)) (pickT (by omega)) (pickF (by omega))
  refine ⟨?_, by decide, by omega, by omega, ⟨0, 1, by omega⟩, ⟨1, 1, by omega⟩, ?_⟩
  · unfold wayF
    rw [if_neg (by omega), e1, e2]
    rw [if_neg (by decide)]
    rw [if_pos (by decide)]
    refine Prod.ext rfl (Prod.ext ?_ ?_)
    · dsimp only; omega
    · dsimp only; omega
  · rw [show max r (max g b) = r by omega, show min r (min g b) = b by omega, hueF_N (by omega) (by omega) (by omega) (by omega) (by omega)]
    unfold hueS
    refine congrArg H6 ?_
    rw [if_pos (by omega)]
    show _ = _
    have zb : r - b = (r - b) := by omega
    have zg : r - g = ((r - b) - (g - b)) := by omega
    exact (congr (congrArg (fun x y => Float64.sub (Dv x (r - b)) (Dv y (r - b))) zb) zg).trans rfl
theorem hue_c1 {r g b : Nat} (hr : r ≤ 64) (hg : g ≤ 64) (hb : b ≤ 64) (h0 : g < r) (h1 : g = b) : HueAt r g b 0 (0) (r - b) := by
  have hh : Hid ((b : Int) = min (r : Int) (min (g : Int) (b : Int)) ∧ (r : Int) = max (r : Int) (max (g : Int) (b : Int))) := ⟨⟨by omega, by omega⟩⟩
  have e1 : leadI (r : Int) (g : Int) (b : Int) = sixthOf true false false := lead_eq hh (pickT (by omega)) (pickF (by omega)) (pickF (by omega))
  have e2 : bothI (r : Int) (g : Int) (b : Int) = sixthOf true false false := both_eq hh (pickT (by omega)) (pickF (by omega)) (pickF (by omega))
  refine ⟨?_, by decide, by omega, by omega, ⟨0, 0, by omega⟩, ⟨1, 1, by omega⟩, ?_⟩
  · unfold wayF
    rw [if_neg (by omega), e1, e2]
    rw [if_pos rfl]
    refine Prod.ext rfl (Prod.ext ?_ ?_)
    · dsimp only; omega
    · dsimp only; omega
  · rw [show max r (max g b) = r by omega, show min r (min g b) = b by omega, hueF_N (by omega) (by omega) (by omega) (by omega) (by omega)]
    unfold hueS
    refine congrArg H6 ?_
    rw [if_pos (by omega)]
    show _ = _
    have zb : r - b = (r - b) := by omega
    have zg : r - g = ((r - b) - (0)) := by omega
    exact (congr (congrArg (fun x y => Float64.sub (Dv x (r - b)) (Dv y (r - b))) zb) zg).trans rfl
theorem hue_c2 {r g b : Nat} (hr : r ≤ 64) (hg : g ≤ 64) (hb : b ≤ 64) (h0 : r = g) (h1 : b < g) : HueAt r g b 1 (0) (r - b) := by
  have hh : Hid ((b : Int) = min (r : Int) (min (g : Int) (b : Int)) ∧ (r : Int) = max (r : Int) (max (g : Int) (b : Int))) := ⟨⟨by omega, by omega⟩⟩
  have e1 : leadI (r : Int) (g : Int) (b : Int) = sixthOf true true false := lead_eq hh (pickT (by omega)) (pickT (by omega)) (pickF (by omega))
  have e2 : bothI (r : Int) (g : Int) (b : Int) = sixthOf true true false := both_eq hh (pickT (by omega)) (pickT (by omega)) (pickF (by omega))
  refine ⟨?_, by decide, by omega, by omega, ⟨0, 0, by omega⟩, ⟨1, 1, by omega⟩, ?_⟩
  · unfold wayF
    rw [if_neg (by omega), e1, e2]
    rw [if_pos rfl]
    refine Prod.ext rfl (Prod.ext ?_ ?_)
    · dsimp only; omega
    · dsimp only; omega
  · rw [show max r (max g b) = r by omega, show min r (min g b) = b by omega, hueF_N (by omega) (by omega) (by omega) (by omega) (by omega)]
    unfold hueS
    refine congrArg H6 ?_
    rw [if_pos (by omega)]
    rw [show r - g = 0 by omega]
    exact corn1 (by omega) (by omega)
theorem hue_c3 {r g b : Nat} (hr : r ≤ 64) (hg : g ≤ 64) (hb : b ≤ 64) (h0 : r < g) (h1 : b < r) : HueAt r g b 1 (g - r) (g - b) := by
  have hh : Hid ((b : Int) = min (r : Int) (min (g : Int) (b : Int)) ∧ (g : Int) = max (r : Int) (max (g : Int) (b : Int))) := ⟨⟨by omega, by omega⟩⟩
  have e1 : leadI (r : Int) (g : Int) (b : Int) = sixthOf false true false := lead_eq hh (pickF (by omega)) (pickT (by omega)) (pickF (by omega))
  have e2 : bothI (r : Int) (g : Int) (b : Int) = sixthOf true true false := both_eq hh (pickT (by omega)) (pickT (by omega)) (pickF (by omega))
  refine ⟨?_, by decide, by omega, by omega, ⟨-1, 0, by omega⟩, ⟨0, 1, by omega⟩, ?_⟩
  · unfold wayF
    rw [if_neg (by omega), e1, e2]
    rw [if_neg (by decide)]
    rw [if_neg (by decide)]
    refine Prod.ext rfl (Prod.ext ?_ ?_)
    · dsimp only; omega
    · dsimp only; omega
  · rw [show max r (max g b) = g by omega, show min r (min g b) = b by omega, hueF_N (by omega) (by omega) (by omega) (by omega) (by omega)]
    unfold hueS
    refine congrArg H6 ?_
    rw [if_neg (by omega), if_pos (by omega)]
    show _ = _
    have zr : g - r = (g - r) := by omega
    have zb : g - b = (g - b) := by omega
    exact (congr (congrArg (fun x y => Float64.sub (Float64.add 4611686018427387904 (Dv x (g - b))) (Dv y (g - b))) zr) zb).trans rfl
theorem hue_c4 {r g b : Nat} (hr : r ≤ 64) (hg : g ≤ 64) (hb : b ≤ 64) (h0 : r < g) (h1 : r = b) : HueAt r g b 2 (0) (g - b) := by
  have hh : Hid ((b : Int) = min (r : Int) (min (g : Int) (b : Int)) ∧ (g : Int) = max (r : Int) (max (g : Int) (b : Int))) := ⟨⟨by omega, by omega⟩⟩
  have e1 : leadI (r : Int) (g : Int) (b : Int) = sixthOf false true false := lead_eq hh (pickF (by omega)) (pickT (by omega)) (pickF (by omega))
  have e2 : bothI (r : Int) (g : Int) (b : Int) = sixthOf false true false := both_eq hh (pickF (by omega)) (pickT (by omega)) (pickF (by omega))
  refine ⟨?_, by decide, by omega, by omega, ⟨0, 0, by omega⟩, ⟨0, 1, by omega⟩, ?_⟩
  · unfold wayF
    rw [if_neg (by omega), e1, e2]
    rw [if_pos rfl]
    refine Prod.ext rfl (Prod.ext ?_ ?_)
    · dsimp only; omega
    · dsimp only; omega
  · rw [show max r (max g b) = g by omega, show min r (min g b) = b by omega, hueF_N (by omega) (by omega) (by omega) (by omega) (by omega)]
    unfold hueS
    refine congrArg H6 ?_
    rw [if_neg (by omega), if_pos (by omega)]
    show _ = _
    have zr : g - r = (g - b) := by omega
    have zb : g - b = ((g - b) - (0)) := by omega
    exact (congr (congrArg (fun x y => Float64.sub (Float64.add 4611686018427387904 (Dv x (g - b))) (Dv y (g - b))) zr) zb).trans rfl
theorem hue_c5 {r g b : Nat} (hr : r ≤ 64) (hg : g ≤ 64) (hb : b ≤ 64) (h0 : b < g) (h1 : r < b) : HueAt r g b 2 (b - r) (g - r) := by
  have hh : Hid ((r : Int) = min (r : Int) (min (g : Int) (b : Int)) ∧ (g : Int) = max (r : Int) (max (g : Int) (b : Int))) := ⟨⟨by omega, by omega⟩⟩
  have e1 : leadI (r : Int) (g : Int) (b : Int) = sixthOf false true false := lead_eq hh (pickF (by omega)) (pickT (by omega)) (pickF (by omega))
  have e2 : bothI (r : Int) (g : Int) (b : Int) = sixthOf false true true := both_eq hh (pickF (by omega)) (pickT (by omega)) (pickT (by omega))
  refine ⟨?_, by decide, by omega, by omega, ⟨-1, -1, by omega⟩, ⟨-1, 0, by omega⟩, ?_⟩
  · unfold wayF
    rw [if_neg (by omega), e1, e2]
    rw [if_neg (by decide)]
    rw [if_pos (by decide)]
    refine Prod.ext rfl (Prod.ext ?_ ?_)
    · dsimp only; omega
    · dsimp only; omega
  · rw [show max r (max g b) = g by omega, show min r (min g b) = r by omega, hueF_N (by omega) (by omega) (by omega) (by omega) (by omega)]
    unfold hueS
    refine congrArg H6 ?_
    rw [if_neg (by omega), if_pos (by omega)]
    show _ = _
    have zr : g - r = (g - r) := by omega
    have zb : g - b = ((g - r) - (b - r)) := by omega
    exact (congr (congrArg (fun x y => Float64.sub (Float64.add 4611686018427387904 (Dv x (g - r))) (Dv y (g - r))) zr) zb).trans rfl
theorem hue_c6 {r g b : Nat} (hr : r ≤ 64) (hg : g ≤ 64) (hb : b ≤ 64) (h0 : g = b) (h1 : r < b) : HueAt r g b 3 (0) (g - r) := by
  have hh : Hid ((r : Int) = min (r : Int) (min (g : Int) (b : Int)) ∧ (g : Int) = max (r : Int) (max (g : Int) (b : Int))) := ⟨⟨by omega, by omega⟩⟩
  have e1 : leadI (r : Int) (g : Int) (b : Int) = sixthOf false true true := lead_eq hh (pickF (by omega)) (pickT (by omega)) (pickT (by omega))
  have e2 : bothI (r : Int) (g : Int) (b : Int) = sixthOf false true true := both_eq hh (pickF (by omega)) (pickT (by omega)) (pickT (by omega))
  refine ⟨?_, by decide, by omega, by omega, ⟨0, 0, by omega⟩, ⟨-1, 0, by omega⟩, ?_⟩
  · unfold wayF
    rw [if_neg (by omega), e1, e2]
    rw [if_pos rfl]
    refine Prod.ext rfl (Prod.ext ?_ ?_)
    · dsimp only; omega
    · dsimp only; omega
  · rw [show max r (max g b) = g by omega, show min r (min g b) = r by omega, hueF_N (by omega) (by omega) (by omega) (by omega) (by omega)]
    unfold hueS
    refine congrArg H6 ?_
    rw [if_neg (by omega), if_pos (by omega)]
    rw [show g - b = 0 by omega]
    exact corn3 (by omega) (by omega)
theorem hue_c7 {r g b : Nat} (hr : r ≤ 64) (hg : g ≤ 64) (hb : b ≤ 64) (h0 : g < b) (h1 : r < g) : HueAt r g b 3 (b - g) (b - r) := by
  have hh : Hid ((r : Int) = min (r : Int) (min (g : Int) (b : Int)) ∧ (b : Int) = max (r : Int) (max (g : Int) (b : Int))) := ⟨⟨by omega, by omega⟩⟩
  have e1 : leadI (r : Int) (g : Int) (b : Int) = sixthOf false false true := lead_eq hh (pickF (by omega)) (pickF (by omega)) (pickT (by omega))
  have e2 : bothI (r : Int) (g : Int) (b : Int) = sixthOf false true true := both_eq hh (pickF (by omega)) (pickT (by omega)) (pickT (by omega))
  refine ⟨?_, by decide, by omega, by omega, ⟨0, -1, by omega⟩, ⟨-1, -1, by omega⟩, ?_⟩
  · unfold wayF
    rw [if_neg (by omega), e1, e2]
    rw [if_neg (by decide)]
    rw [if_neg (by decide)]
    refine Prod.ext rfl (Prod.ext ?_ ?_)
    · dsimp only; omega
    · dsimp only; omega
  · rw [show max r (max g b) = b by omega, show min r (min g b) = r by omega, hueF_N (by omega) (by omega) (by omega) (by omega) (by omega)]
    unfold hueS
    refine congrArg H6 ?_
    rw [if_neg (by omega), if_neg (by omega)]
    show _ = _
    have zg : b - g = (b - g) := by omega
    have zr : b - r = (b - r) := by omega
    exact (congr (congrArg (fun x y => Float64.sub (Float64.add 4616189618054758400 (Dv x (b - r))) (Dv y (b - r))) zg) zr).trans rfl
theorem hue_c8 {r g b : Nat} (hr : r ≤ 64) (hg : g ≤ 64) (hb : b ≤ 64) (h0 : g < b) (h1 : g = r) : HueAt r g b 4 (0) (b - r) := by
  have hh : Hid ((r : Int) = min (r : Int) (min (g : Int) (b : Int)) ∧ (b : Int) = max (r : Int) (max (g : Int) (b : Int))) := ⟨⟨by omega, by omega⟩⟩
  have e1 : leadI (r : Int) (g : Int) (b : Int) = sixthOf false false true := lead_eq hh (pickF (by omega)) (pickF (by omega)) (pickT (by omega))
  have e2 : bothI (r : Int) (g : Int) (b : Int) = sixthOf false false true := both_eq hh (pickF (by omega)) (pickF (by omega)) (pickT (by omega))
  refine ⟨?_, by decide, by omega, by omega, ⟨0, 0, by omega⟩, ⟨-1, -1, by omega⟩, ?_⟩
  · unfold wayF
    rw [if_neg (by omega), e1, e2]
    rw [if_pos rfl]
    refine Prod.ext rfl (Prod.ext ?_ ?_)
    · dsimp only; omega
    · dsimp only; omega
  · rw [show max r (max g b) = b by omega, show min r (min g b) = r by omega, hueF_N (by omega) (by omega) (by omega) (by omega) (by omega)]
    unfold hueS
    refine congrArg H6 ?_
    rw [if_neg (by omega), if_neg (by omega)]
    show _ = _
    have zg : b - g = (b - r) := by omega
    have zr : b - r = ((b - r) - (0)) := by omega
    exact (congr (congrArg (fun x y => Float64.sub (Float64.add 4616189618054758400 (Dv x (b - r))) (Dv y (b - r))) zg) zr).trans rfl
theorem hue_c9 {r g b : Nat} (hr : r ≤ 64) (hg : g ≤ 64) (hb : b ≤ 64) (h0 : r < b) (h1 : g < r) : HueAt r g b 4 (r - g) (b - g) := by
  have hh : Hid ((g : Int) = min (r : Int) (min (g : Int) (b : Int)) ∧ (b : Int) = max (r : Int) (max (g : Int) (b : Int))) := ⟨⟨by omega, by omega⟩⟩
  have e1 : leadI (r : Int) (g : Int) (b : Int) = sixthOf false false true := lead_eq hh (pickF (by omega)) (pickF (by omega)) (pickT (by omega))
  have e2 : bothI (r : Int) (g : Int) (b : Int) = sixthOf true false true := both_eq hh (pickT (by omega)) (pickF (by omega)) (pickT (by omega))
  refine ⟨?_, by decide, by omega, by omega, ⟨1, 0, by omega⟩, ⟨0, -1, by omega⟩, ?_⟩
  · unfold wayF
    rw [if_neg (by omega), e1, e2]
    rw [if_neg (by decide)]
    rw [if_pos (by decide)]
    refine Prod.ext rfl (Prod.ext ?_ ?_)
    · dsimp only; omega
    · dsimp only; omega
  · rw [show max r (max g b) = b by omega, show min r (min g b) = g by omega, hueF_N (by omega) (by omega) (by omega) (by omega) (by omega)]
    unfold hueS
    refine congrArg H6 ?_
    rw [if_neg (by omega), if_neg (by omega)]
    show _ = _
    have zg : b - g = (b - g) := by omega
    have zr : b - r = ((b - g) - (r - g)) := by omega
    exact (congr (congrArg (fun x y => Float64.sub (Float64.add 4616189618054758400 (Dv x (b - g))) (Dv y (b - g))) zg) zr).trans rfl
theorem hue_c10 {r g b : Nat} (hr : r ≤ 64) (hg : g ≤ 64) (hb : b ≤ 64) (h0 : r = b) (h1 : g < b) : HueAt r g b 5 (0) (r - g) := by
  have hh : Hid ((g : Int) = min (r : Int) (min (g : Int) (b : Int)) ∧ (r : Int) = max (r : Int) (max (g : Int) (b : Int))) := ⟨⟨by omega, by omega⟩⟩
  have e1 : leadI (r : Int) (g : Int) (b : Int) = sixthOf true false true := lead_eq hh (pickT (by omega)) (pickF (by omega)) (pickT (by omega))
  have e2 : bothI (r : Int) (g : Int) (b : Int) = sixthOf true false true := both_eq hh (pickT (by omega)) (pickF (by omega)) (pickT (by omega))
  refine ⟨?_, by decide, by omega, by omega, ⟨0, 0, by omega⟩, ⟨1, 0, by omega⟩, ?_⟩
  · unfold wayF
    rw [if_neg (by omega), e1, e2]
    rw [if_pos rfl]
    refine Prod.ext rfl (Prod.ext ?_ ?_)
    · dsimp only; omega
    · dsimp only; omega
  · rw [show max r (max g b) = r by omega, show min r (min g b) = g by omega, hueF_N (by omega) (by omega) (by omega) (by omega) (by omega)]
    unfold hueS
    refine congrArg H6 ?_
    rw [if_pos (by omega)]
    show _ = _
    have zb : r - b = (0) := by omega
    have zg : r - g = (r - g) := by omega
    exact (congr (congrArg (fun x y => Float64.sub (Dv x (r - g)) (Dv y (r - g))) zb) zg).trans rfl
theorem hue_c11 {r g b : Nat} (hr : r ≤ 64) (hg : g ≤ 64) (hb : b ≤ 64) (h0 : b < r) (h1 : g < b) : HueAt r g b 5 (r - b) (r - g) := by
  have hh : Hid ((g : Int) = min (r : Int) (min (g : Int) (b : Int)) ∧ (r : Int) = max (r : Int) (max (g : Int) (b : Int))) := ⟨⟨by omega, by omega⟩⟩
  have e1 : leadI (r : Int) (g : Int) (b : Int) = sixthOf true false false := lead_eq hh (pickT (by omega)) (pickF (by omega)) (pickF (by omega))
  have e2 : bothI (r : Int) (g : Int) (b : Int) = sixthOf true false true := both_eq hh (pickT (by omega)) (pickF (by omega)) (pickT (by omega))
  refine ⟨?_, by decide, by omega, by omega, ⟨1, 1, by omega⟩, ⟨1, 0, by omega⟩, ?_⟩
  · unfold wayF
    rw [if_neg (by omega), e1, e2]
    rw [if_neg (by decide)]
    rw [if_neg (by decide)]
    refine Prod.ext rfl (Prod.ext ?_ ?_)
    · dsimp only; omega
    · dsimp only; omega
  · rw [show max r (max g b) = r by omega, show min r (min g b) = g by omega, hueF_N (by omega) (by omega) (by omega) (by omega) (by omega)]
    unfold hueS
    refine congrArg H6 ?_
    rw [if_pos (by omega)]
    show _ = _
    have zb : r - b = (r - b) := by omega
    have zg : r - g = (r - g) := by omega
    exact (congr (congrArg (fun x y => Float64.sub (Dv x (r - g)) (Dv y (r - g))) zb) zg).trans rfl
theorem hue_any {r g b : Nat} (hr : r ≤ 64) (hg : g ≤ 64) (hb : b ≤ 64) (hne : min r (min g b) ≠ max r (max g b)) : ∃ s a d, HueAt r g b s a d := by
  rcases Nat.lt_trichotomy r g with h | h | h
  · rcases Nat.lt_trichotomy g b with k | k | k
    · exact ⟨_, _, _, hue_c7 hr hg hb k h⟩
    · exact ⟨_, _, _, hue_c6 hr hg hb k (by omega)⟩
    · rcases Nat.lt_trichotomy r b with l | l | l
      · exact ⟨_, _, _, hue_c5 hr hg hb k l⟩
      · exact ⟨_, _, _, hue_c4 hr hg hb h l⟩
      · exact ⟨_, _, _, hue_c3 hr hg hb h l⟩
  · rcases Nat.lt_trichotomy g b with k | k | k
    · exact ⟨_, _, _, hue_c8 hr hg hb k h.symm⟩
    · exfalso; omega
    · exact ⟨_, _, _, hue_c2 hr hg hb h k⟩
  · rcases Nat.lt_trichotomy g b with k | k | k
    · rcases Nat.lt_trichotomy r b with l | l | l
      · exact ⟨_, _, _, hue_c9 hr hg hb l h⟩
      · exact ⟨_, _, _, hue_c10 hr hg hb l k⟩
      · exact ⟨_, _, _, hue_c11 hr hg hb l k⟩
    · exact ⟨_, _, _, hue_c1 hr hg hb h k⟩
    · exact ⟨_, _, _, hue_c0 hr hg hb h k⟩
end Mine
end

section
open PySem PySem.W PySem.Calls PySem.Spec PyProof.Rows
set_option maxRecDepth 100000
set_option maxHeartbeats 4000000
namespace Mine
theorem cmpK_append : ∀ (A B : List (Int × Int)) (x y : List Int), (∀ q ∈ A, q.2 ≠ 0) → cmpK (A ++ B) x y = if cmpK A x y ≠ 0 then cmpK A x y else cmpK B x y
  | [], B, x, y, _ => by simp [cmpK]
  | (k, d) :: A, B, x, y, h => by
    have hd : d ≠ 0 := h (k, d) (.head _)
    have ih := cmpK_append A B x y fun q hq => h q (.tail _ hq)
    rw [List.cons_append, cmpK, cmpK]
    split
    · rw [if_pos (by omega)]
    · split
      · first | rfl | rw [if_pos hd]
      · exact ih
theorem getD_mid (pre xs post : List Int) (x : Int) : (pre ++ (x :: xs) ++ post).getD pre.length 0 = x := by
  simp [List.getD]
theorem rangeKs_cons (a : Int) (n : Nat) : rangeKs a (n + 1) = a :: rangeKs (a + 1) n := by
  simp only [rangeKs, List.range_succ_eq_map, List.map_cons, List.map_map]
  congr 1
  · simp
  · apply List.map_congr_left
    intro k _
    simp only [Function.comp]
    omega
theorem cmpK_alt (wy : Int → Int) (d : Int) : ∀ (xs ys pre pre' post post' : List Int) (lo : Nat) (s : Int), xs.length = ys.length → pre.length = lo → pre'.length = lo → (∀ j : Nat, j < xs.length → d * wy ((lo : Int) + j) = if j % 2 = 0 then s else -s) →
    cmpK ((rangeKs (lo : Int) xs.length).map fun k => (k, d * wy k)) (pre ++ xs ++ post) (pre' ++ ys ++ post') = altC s xs ys
  | [], ys, pre, pre', post, post', lo, s, hl, _, _, _ => by simp [rangeKs, cmpK, altC]
  | x :: xs, [], pre, pre', post, post', lo, s, hl, _, _, _ => by simp at hl
  | x :: xs, y :: ys, pre, pre', post, post', lo, s, hl, h1, h2, hw => by
    have hs : d * wy (lo : Int) = s := by have := hw 0 (by simp); simpa using this
    rw [List.length_cons, rangeKs_cons, List.map_cons, cmpK, altC, hs]
    have g1 : (pre ++ x :: xs ++ post).getD ((lo : Int).toNat) 0 = x := by rw [Int.toNat_natCast, ← h1]; exact getD_mid _ _ _ _
    have g2 : (pre' ++ y :: ys ++ post').getD ((lo : Int).toNat) 0 = y := by rw [Int.toNat_natCast, ← h2]; exact getD_mid _ _ _ _
    rw [g1, g2]
    have ih := cmpK_alt wy d xs ys (pre ++ [x]) (pre' ++ [y]) post post' (lo + 1) (-s) (by simpa using hl) (by simp [h1]) (by simp [h2]) (fun j hj => by
      have := hw (j + 1) (by simpa using hj)
      have e : (lo : Int) + ((j + 1 : Nat) : Int) = ((lo + 1 : Nat) : Int) + (j : Int) := by omega
      rw [e] at this
      rw [this]
      rcases Nat.mod_two_eq_zero_or_one j with q | q
      · rw [if_neg (by omega), if_pos q]
      · rw [if_pos (by omega), if_neg (by omega), Int.neg_neg])
    have e1 : pre ++ [x] ++ xs ++ post = pre ++ x :: xs ++ post := by simp
    have e2 : pre' ++ [y] ++ ys ++ post' = pre' ++ y :: ys ++ post' := by simp
    rw [e1, e2] at ih
    rw [show ((lo : Int) + 1) = ((lo + 1 : Nat) : Int) by omega, ih]
theorem quoRow_nil (u v : Int) : quoRow u 0 = quoRow v 0 := rfl
theorem quoRow_max {u d : Int} (hd : 0 ≤ d) (h : d ≤ u) : quoRow u d = quoRow (max u 1) d := by
  rcases Int.lt_or_le u 1 with q | q
  · have : d = 0 := by omega
    subst this; exact quoRow_nil _ _
  · rw [Int.max_eq_left q]
noncomputable def boundsL : List Int := [0, 11, 21, 22, 23, 33]
noncomputable def waysL : List Int := [1, -1, 1, -1, 1, -1, 1, -1, 1, -1, 1, -1, 1, -1, 1, -1, 1, -1, 1, -1, 1, 1, 1, -1, 1, -1, 1, -1, 1, -1, 1, -1, 1]
noncomputable def loB (q : Int) : Int := boundsL.getD q.toNat 0
noncomputable def hiB (q : Int) : Int := boundsL.getD (q + 1).toNat 0
noncomputable def wyB (k : Int) : Int := waysL.getD k.toNat 0
/-- what the shares of two colours say, one sign for each of the five -/
noncomputable def plainI (R G B R' G' B' : Int) : List Int := List.zipWith (fun p q => sgnI (p.1 * q.2) (q.1 * p.2)) (sharesI R G B) (sharesI R' G' B')
structure ColOk (R G B : Int) : Prop where
  on0 : 0 ≤ (wayF R G B).2.1
  on1 : (wayF R G B).2.1 < (wayF R G B).2.2
  wh : (wayF R G B).2.2 ≤ 64
  sp0 : 0 ≤ hiI R G B - loI R G B
  sp1 : hiI R G B - loI R G B ≤ hiI R G B
  hi64 : hiI R G B ≤ 64
  sp2 : hiI R G B - loI R G B ≤ nearI R G B
  n64 : nearI R G B ≤ 64
theorem six_alt {s a b s' a' b' : Int} {q q' : List Int} (h0 : 0 ≤ a) (h1 : a < b) (h0' : 0 ≤ a') (h1' : a' < b') (hq : altC (-1) q q' = sgnI (a * b') (a' * b)) : altC 1 (s :: q) (s' :: q') = sgnI ((s * b + a) * b') ((s' * b' + a') * b) := by
  have x1 : (s * b + a) * b' = s * (b * b') + a * b' := by rw [Int.add_mul, Int.mul_assoc]
  have x2 : (s' * b' + a') * b = s' * (b * b') + a' * b := by rw [Int.add_mul, Int.mul_assoc, Int.mul_comm b' b]
  have p1 : a * b' < b * b' := Int.mul_lt_mul_of_pos_right h1 (by omega)
  have p2 : a' * b < b * b' := by rw [Int.mul_comm b b']; exact Int.mul_lt_mul_of_pos_right h1' (by omega)
  have p3 : 0 ≤ a * b' := Int.mul_nonneg h0 (by omega)
  have p4 : 0 ≤ a' * b := Int.mul_nonneg h0' (by omega)
  have p5 : 0 < b * b' := Int.mul_pos (by omega) (by omega)
  unfold altC
  rw [x1, x2]
  rcases Int.lt_trichotomy s s' with h | h | h
  · rw [if_pos h]
    have : (s + 1) * (b * b') ≤ s' * (b * b') := Int.mul_le_mul_of_nonneg_right h (by omega)
    rw [Int.add_mul, Int.one_mul] at this
    rw [sgnI_lt (by omega)]
  · subst h
    rw [if_neg (by omega), if_neg (by omega), hq]
    rcases Int.lt_trichotomy (a * b') (a' * b) with k | k | k
    · rw [sgnI_lt k, sgnI_lt (by omega)]
    · rw [sgnI_eq k, sgnI_eq (by omega)]
    · rw [sgnI_gt k, sgnI_gt (by omega)]
  · rw [if_neg (by omega), if_pos h]
    have : (s' + 1) * (b * b') ≤ s * (b * b') := Int.mul_le_mul_of_nonneg_right h (by omega)
    rw [Int.add_mul, Int.one_mul] at this
    rw [sgnI_gt (by omega)]
theorem one_alt (x y : Int) : altC 1 [x] [y] = sgnI (x * 1) (y * 1) := by
  unfold altC altC
  rw [Int.mul_one, Int.mul_one]
  rcases Int.lt_trichotomy x y with h | h | h
  · rw [if_pos h, sgnI_lt h]
  · rw [if_neg (by omega), if_neg (by omega), sgnI_eq h]
  · rw [if_neg (by omega), if_pos h, sgnI_gt h]
theorem altC_dir {d : Int} (hd : d = 1 ∨ d = -1) (s : Int) (xs ys : List Int) : altC (d * s) xs ys = d * altC s xs ys := by
  rcases hd with rfl | rfl
  · rw [Int.one_mul, Int.one_mul]
  · rw [Int.neg_mul, Int.one_mul, altC_neg, Int.neg_mul, Int.one_mul]
theorem wy_tab0 : ∀ j, j < 11 → wyB ((0 : Nat) + (j : Nat)) = if j % 2 = 0 then 1 else -1 := by decide
theorem wy_tab1 : ∀ j, j < 10 → wyB ((11 : Nat) + (j : Nat)) = if j % 2 = 0 then -1 else - -1 := by decide
theorem wy_tab2 : ∀ j, j < 1 → wyB ((21 : Nat) + (j : Nat)) = if j % 2 = 0 then 1 else -1 := by decide
theorem wy_tab3 : ∀ j, j < 1 → wyB ((22 : Nat) + (j : Nat)) = if j % 2 = 0 then 1 else -1 := by decide
theorem wy_tab4 : ∀ j, j < 10 → wyB ((23 : Nat) + (j : Nat)) = if j % 2 = 0 then -1 else - -1 := by decide
theorem wy_dir {lo n : Nat} {s d : Int} (h : ∀ j, j < n → wyB ((lo : Nat) + (j : Nat)) = if j % 2 = 0 then s else -s) : ∀ j : Nat, j < n → d * wyB ((lo : Int) + j) = if j % 2 = 0 then d * s else -(d * s) := fun j hj => by
  have := h j hj
  rw [this]
  split
  · rfl
  · rw [Int.mul_neg]
theorem row_len {R G B : Int} (C : ColOk R G B) : (rowI R G B).length = 33 := by
  obtain ⟨c1, c2, c3, c4, c5, c6, c7, c8⟩ := C
  unfold rowI
  simp only [List.length_append, List.length_cons, List.length_nil]
  rw [quoRow_len10 (u := (wayF R G B).2.2) c1 (by omega) c3, quoRow_len10 (u := hiI R G B) c4 c5 c6, quoRow_len10 (u := nearI R G B) c4 c7 c8]
theorem wish_row {R G B R' G' B' : Int} (C : ColOk R G B) (C' : ColOk R' G' B') {q d : Int} (hq : 0 ≤ q ∧ q < 5) (hd : d = 1 ∨ d = -1) :
    cmpK ((rangeKs (loB q) (hiB q - loB q).toNat).map fun k => (k, d * wyB k)) (rowI R G B) (rowI R' G' B') = (plainI R G B R' G' B').getD q.toNat 0 * d := by
  have A := C; have A' := C'
  obtain ⟨c1, c2, c3, c4, c5, c6, c7, c8⟩ := C
  obtain ⟨c1', c2', c3', c4', c5', c6', c7', c8'⟩ := C'
  have l1 := quoRow_len10 (u := (wayF R G B).2.2) c1 (by omega) c3
  have l2 := quoRow_len10 (u := hiI R G B) c4 c5 c6
  have l3 := quoRow_len10 (u := nearI R G B) c4 c7 c8
  have l1' := quoRow_len10 (u := (wayF R' G' B').2.2) c1' (by omega) c3'
  have l2' := quoRow_len10 (u := hiI R' G' B') c4' c5' c6'
  have l3' := quoRow_len10 (u := nearI R' G' B') c4' c7' c8'
  have a1 := alt_row (u := (wayF R G B).2.2) (d := (wayF R G B).2.1) (u' := (wayF R' G' B').2.2) (d' := (wayF R' G' B').2.1) (by omega) (by omega) c1 c1' (by omega) (by omega) c3 c3'
  have a2 := alt_row (u := max (hiI R G B) 1) (d := hiI R G B - loI R G B) (u' := max (hiI R' G' B') 1) (d' := hiI R' G' B' - loI R' G' B') (by omega) (by omega) c4 c4' (by omega) (by omega) (by omega) (by omega)
  have a3 := alt_row (u := max (nearI R G B) 1) (d := hiI R G B - loI R G B) (u' := max (nearI R' G' B') 1) (d' := hiI R' G' B' - loI R' G' B') (by omega) (by omega) c4 c4' (by omega) (by omega) (by omega) (by omega)
  rw [← quoRow_max c4 c5, ← quoRow_max c4' c5'] at a2
  rw [← quoRow_max c4 c7, ← quoRow_max c4' c7'] at a3
  have s0 := six_alt (s := (wayF R G B).1) (s' := (wayF R' G' B').1) c1 c2 c1' c2' a1
  have s2 := one_alt (hiI R G B) (hiI R' G' B')
  have s3 := one_alt (hiI R G B + loI R G B) (hiI R' G' B' + loI R' G' B')
  unfold rowI plainI sharesI
  generalize quoRow (wayF R G B).2.2 (wayF R G B).2.1 = x1 at *
  generalize quoRow (wayF R' G' B').2.2 (wayF R' G' B').2.1 = y1 at *
  generalize quoRow (hiI R G B) (hiI R G B - loI R G B) = x2 at *
  generalize quoRow (hiI R' G' B') (hiI R' G' B' - loI R' G' B') = y2 at *
  generalize quoRow (nearI R G B) (hiI R G B - loI R G B) = x3 at *
  generalize quoRow (nearI R' G' B') (hiI R' G' B' - loI R' G' B') = y3 at *
  have hq' : q = 0 ∨ q = 1 ∨ q = 2 ∨ q = 3 ∨ q = 4 := by omega
  rw [Int.mul_comm _ d]
  rcases hq' with rfl | rfl | rfl | rfl | rfl
  · have k := cmpK_alt wyB d ((wayF R G B).1 :: x1) ((wayF R' G' B').1 :: y1) [] [] (x2 ++ [hiI R G B, hiI R G B + loI R G B] ++ x3) (y2 ++ [hiI R' G' B', hiI R' G' B' + loI R' G' B'] ++ y3) 0 (d * 1) (by simp [l1, l1']) rfl rfl (by rw [List.length_cons, l1]; exact wy_dir wy_tab0)
    rw [altC_dir hd, s0, List.length_cons, l1] at k
    rw [show (hiB 0 - loB 0).toNat = 11 from rfl, show loB 0 = 0 from rfl]
    simpa [List.append_assoc] using k
  · have k := cmpK_alt wyB d x2 y2 ((wayF R G B).1 :: x1) ((wayF R' G' B').1 :: y1) ([hiI R G B, hiI R G B + loI R G B] ++ x3) ([hiI R' G' B', hiI R' G' B' + loI R' G' B'] ++ y3) 11 (d * -1) (by simp [l2, l2']) (by simp [l1]) (by simp [l1']) (by rw [l2]; exact wy_dir wy_tab1)
    rw [altC_dir hd, a2, l2] at k
    rw [show (hiB 1 - loB 1).toNat = 10 from rfl, show loB 1 = 11 from rfl]
    simpa [List.append_assoc] using k
  · have k := cmpK_alt wyB d [hiI R G B] [hiI R' G' B'] ((wayF R G B).1 :: (x1 ++ x2)) ((wayF R' G' B').1 :: (y1 ++ y2)) ([hiI R G B + loI R G B] ++ x3) ([hiI R' G' B' + loI R' G' B'] ++ y3) 21 (d * 1) rfl (by simp [l1, l2]) (by simp [l1', l2']) (wy_dir wy_tab2)
    rw [altC_dir hd, s2] at k
    rw [show (hiB 2 - loB 2).toNat = 1 from rfl, show loB 2 = 21 from rfl]
    simpa [List.append_assoc] using k
  · have k := cmpK_alt wyB d [hiI R G B + loI R G B] [hiI R' G' B' + loI R' G' B'] ((wayF R G B).1 :: (x1 ++ x2 ++ [hiI R G B])) ((wayF R' G' B').1 :: (y1 ++ y2 ++ [hiI R' G' B'])) x3 y3 22 (d * 1) rfl (by simp [l1, l2]) (by simp [l1', l2']) (wy_dir wy_tab3)
    rw [altC_dir hd, s3] at k
    rw [show (hiB 3 - loB 3).toNat = 1 from rfl, show loB 3 = 22 from rfl]
    simpa [List.append_assoc] using k
  · have k := cmpK_alt wyB d x3 y3 ((wayF R G B).1 :: (x1 ++ x2 ++ [hiI R G B, hiI R G B + loI R G B])) ((wayF R' G' B').1 :: (y1 ++ y2 ++ [hiI R' G' B', hiI R' G' B' + loI R' G' B'])) [] [] 23 (d * -1) (by simp [l3, l3']) (by simp [l1, l2]) (by simp [l1', l2']) (by rw [l3]; exact wy_dir wy_tab4)
    rw [altC_dir hd, a3, l3] at k
    rw [show (hiB 4 - loB 4).toNat = 10 from rfl, show loB 4 = 23 from rfl]
    simpa [List.append_assoc] using k
theorem keysOf_cons (lo hi wy : Int → Int) (k d : Int) (r : List (Int × Int)) : keysOf lo hi wy ((k, d) :: r) = ((rangeKs (lo k) (hi k - lo k).toNat).map fun q => (q, d * wy q)) ++ keysOf lo hi wy r := by
  simp [keysOf]
theorem wy_ne : ∀ k : Nat, k < 33 → wyB k ≠ 0 := by decide
theorem lo_tab : ∀ q : Nat, q < 5 → 0 ≤ loB q ∧ loB q ≤ hiB q ∧ hiB q ≤ 33 := by decide
theorem keys_ne {k d : Int} (hk : 0 ≤ k ∧ k < 5) (hd : d = 1 ∨ d = -1) : ∀ q ∈ (rangeKs (loB k) (hiB k - loB k).toNat).map (fun q => (q, d * wyB q)), (0 ≤ q.1 ∧ q.1 < 33) ∧ q.2 ≠ 0 := by
  intro q hq
  obtain ⟨z, hz, rfl⟩ := List.mem_map.mp hq
  unfold rangeKs at hz
  obtain ⟨j, hj, rfl⟩ := List.mem_map.mp hz
  rw [List.mem_range] at hj
  have hb := lo_tab k.toNat (by omega)
  rw [show ((k.toNat : Nat) : Int) = k by omega] at hb
  have w := wy_ne (loB k + (j : Int)).toNat (by omega)
  rw [show (((loB k + (j : Int)).toNat : Nat) : Int) = loB k + j by omega] at w
  dsimp only
  refine ⟨by omega, ?_⟩
  rcases hd with rfl | rfl
  · rw [Int.one_mul]; exact w
  · rw [Int.neg_mul, Int.one_mul]; omega
/-- rows compare as the shares do, by any wishes -/
theorem rows_law {R G B R' G' B' : Int} (C : ColOk R G B) (C' : ColOk R' G' B') : ∀ ws : List (Int × Int), (∀ q ∈ ws, (0 ≤ q.1 ∧ q.1 < 5) ∧ (q.2 = 1 ∨ q.2 = -1)) → cmpK (keysOf loB hiB wyB ws) (rowI R G B) (rowI R' G' B') = firstK ws (plainI R G B R' G' B')
  | [], _ => by simp [keysOf, cmpK, firstK]
  | (k, d) :: r, h => by
    have hk := h (k, d) (.head _)
    dsimp only at hk
    rw [keysOf_cons, cmpK_append _ _ _ _ (fun q hq => (keys_ne hk.1 hk.2 q hq).2), wish_row C C' hk.1 hk.2, rows_law C C' r fun q hq => h q (.tail _ hq), firstK]
    generalize (plainI R G B R' G' B').getD k.toNat 0 = z
    by_cases hz : z = 0
    · subst hz
      rw [if_neg (by omega), if_neg (by omega)]
    · rw [if_pos hz, if_pos]
      intro e
      rcases hk.2 with rfl | rfl <;> omega
theorem keys_in {ws : List (Int × Int)} (h : ∀ q ∈ ws, (0 ≤ q.1 ∧ q.1 < 5) ∧ (q.2 = 1 ∨ q.2 = -1)) : ∀ q ∈ keysOf loB hiB wyB ws, 0 ≤ q.1 ∧ q.1 < 33 := by
  intro q hq
  unfold keysOf at hq
  obtain ⟨⟨k, d⟩, hm, hq⟩ := List.mem_flatMap.mp hq
  have hk := h _ hm
  exact (keys_ne hk.1 hk.2 q hq).1
end Mine
end

section
open PySem PySem.W PySem.Calls PySem.Spec PyProof.Rows
set_option maxRecDepth 100000
set_option maxHeartbeats 4000000
namespace Mine
theorem lin_scale {w t r g b a : Int} (h : Lin (w + t * r) (w + t * g) (w + t * b) a) : ∃ a', a = t * a' := by
  obtain ⟨u, v, e⟩ := h
  refine ⟨u * (r - g) + v * (g - b), ?_⟩
  have e1 : w + t * r - (w + t * g) = t * (r - g) := by rw [Int.mul_sub]; omega
  have e2 : w + t * g - (w + t * b) = t * (g - b) := by rw [Int.mul_sub]; omega
  rw [e, e1, e2, Int.mul_add, Int.mul_left_comm t u, Int.mul_left_comm t v]
theorem hueAt_lohi {r g b s a d : Nat} (H : HueAt r g b s a d) : ((d : Nat) : Int) = (wayF r g b).2.2 := by rw [H.way]
/-- what the floats of a colour are -/
structure FloatsAt (R G B : Int) (s a d : Nat) : Prop where
  way : wayF R G B = ((s : Int), (a : Int), (d : Int))
  s6 : s < 6
  ad : a < d
  d64 : d ≤ 64
  hsv : hsvF (f64 R) (f64 G) (f64 B) = (hueS s a d, Dv (hiI R G B - loI R G B).toNat (max (hiI R G B) 1).toNat, fN (hiI R G B).toNat)
  hls : hlsF (f64 R) (f64 G) (f64 B) = (hueS s a d, Lv (hiI R G B + loI R G B).toNat, Dv (hiI R G B - loI R G B).toNat (max (nearI R G B) 1).toNat)
theorem hue_nil : hueS 0 0 1 = 0 := by decide +kernel
theorem D_zero' {m : Nat} (h1 : 1 ≤ m) (h2 : m ≤ 64) : Dv 0 m = 0 := by
  obtain ⟨k, rfl⟩ : ∃ k, m = k + 1 := ⟨m - 1, by omega⟩
  exact D_zero k (by omega)
theorem cast_min (a b : Nat) : min (a : Int) (b : Int) = ((min a b : Nat) : Int) := by omega
theorem tn_max (n : Nat) : (max (n : Int) 1).toNat = max n 1 := by omega
theorem tn_sub (a b : Nat) : ((a : Int) - (b : Int)).toNat = a - b := Int.toNat_sub a b
theorem cast_128 {lo hi : Nat} (h : lo ≤ hi) (h' : hi ≤ 64) : ((128 - hi - lo : Nat) : Int) = 128 - hi - lo := by omega
theorem near_N {lo hi : Nat} (h : lo ≤ hi) (h' : hi ≤ 64) : min ((hi : Int) + lo) (128 - hi - lo) = (min (hi + lo) (128 - hi - lo) : Nat) ∧ (max ((hi : Nat) : Int) 1).toNat = max hi 1 ∧ (max (((min (hi + lo) (128 - hi - lo) : Nat) : Nat) : Int) 1).toNat = max (min (hi + lo) (128 - hi - lo)) 1 ∧ ((hi : Int) - (lo : Int)).toNat = hi - lo :=
  ⟨by rw [← cast_min, show ((128 - hi - lo : Nat) : Int) = 128 - hi - lo from cast_128 h h']; rfl, tn_max _, tn_max _, tn_sub _ _⟩
theorem near_1 {lo hi : Nat} (h : lo ≤ hi) (h' : hi ≤ 64) (hl : hi + lo ≤ 64) (hne : lo ≠ hi) : max (min (hi + lo) (128 - hi - lo)) 1 = hi + lo := by omega
theorem near_2 {lo hi : Nat} (h : lo ≤ hi) (h' : hi ≤ 64) (hl : ¬ hi + lo ≤ 64) (hne : lo ≠ hi) : max (min (hi + lo) (128 - hi - lo)) 1 = 128 - hi - lo := by omega
theorem near_3 {lo hi : Nat} (h' : hi ≤ 64) : 1 ≤ max (min (hi + lo) (128 - hi - lo)) 1 ∧ max (min (hi + lo) (128 - hi - lo)) 1 ≤ 64 ∧ 1 ≤ max hi 1 ∧ max hi 1 ≤ 64 := by omega
theorem D_zero'' {n m : Nat} (h : n = 0) (h1 : 1 ≤ m) (h2 : m ≤ 64) : Dv n m = 0 := by subst h; exact D_zero' h1 h2
theorem max_one {x : Nat} (h : 1 ≤ x) : max x 1 = x := Nat.max_eq_left h
theorem floats_any {R G B : Int} (hb : In64 R G B) : ∃ s a d, FloatsAt R G B s a d ∧ ((s = 0 ∧ a = 0 ∧ d = 1) ∨ (Lin R G B a ∧ Lin R G B d)) := by
  obtain ⟨⟨a1, a2⟩, ⟨b1, b2⟩, ⟨c1, c2⟩⟩ := hb
  obtain ⟨r, rfl⟩ : ∃ r : Nat, R = r := ⟨R.toNat, by omega⟩
  obtain ⟨g, rfl⟩ : ∃ g : Nat, G = g := ⟨G.toNat, by omega⟩
  obtain ⟨b, rfl⟩ : ∃ b : Nat, B = b := ⟨B.toNat, by omega⟩
  have x1 : f64 (r : Int) = fN r := rfl
  have x2 : f64 (g : Int) = fN g := rfl
  have x3 : f64 (b : Int) = fN b := rfl
  have eh : hiI (r : Int) g b = ((max r (max g b) : Nat) : Int) := by unfold hiI; omega
  have el : loI (r : Int) g b = ((min r (min g b) : Nat) : Int) := by unfold loI; omega
  have hle : min r (min g b) ≤ max r (max g b) := by clear a1 a2 b1 b2 c1 c2 eh el; exact Nat.le_trans (Nat.min_le_left _ _) (Nat.le_max_left _ _)
  have ur : r ≤ 64 := Int.ofNat_le.mp a2
  have ug : g ≤ 64 := Int.ofNat_le.mp b2
  have ub : b ≤ 64 := Int.ofNat_le.mp c2
  have hmx : max r (max g b) ≤ 64 := Nat.max_le.mpr ⟨ur, Nat.max_le.mpr ⟨ug, ub⟩⟩
  have vr : r < 65 := Nat.lt_succ_of_le ur
  have vg : g < 65 := Nat.lt_succ_of_le ug
  have vb : b < 65 := Nat.lt_succ_of_le ub
  have hN := near_N hle hmx
  have en : nearI (r : Int) g b = (min (max r (max g b) + min r (min g b)) (128 - max r (max g b) - min r (min g b)) : Nat) := by unfold nearI; rw [eh, el]; exact hN.1
  have vh : max r (max g b) < 65 := Nat.lt_succ_of_le hmx
  have vl : min r (min g b) < 65 := Nat.lt_of_le_of_lt hle vh
  clear a1 a2 b1 b2 c1 c2
  have L : hlsL (fN r) (fN g) (fN b) = Lv (max r (max g b) + min r (min g b)) := by
    unfold hlsL
    rw [fmax_N vr vg vb, fmin_N vr vg vb, t_add _ vh _ (Nat.lt_succ_of_le hle)]; rfl
  by_cases hne : min r (min g b) = max r (max g b)
  · refine ⟨0, 0, 1, ⟨?_, by decide, by decide, by decide, ?_, ?_⟩, .inl ⟨rfl, rfl, rfl⟩⟩
    · have z : min (r : Int) (min (g : Int) (b : Int)) = max (r : Int) (max (g : Int) (b : Int)) := (show loI (r : Int) g b = hiI (r : Int) g b by rw [eh, el, hne])
      unfold wayF; rw [if_pos z]; rfl
    · rw [x1, x2, x3, eh, el]
      unfold hsvF
      rw [fmax_N vr vg vb, fmin_N vr vg vb, cmp_eq_N vl vh, if_pos (decide_eq_true hne), hue_nil]
      refine Prod.ext rfl (Prod.ext ?_ rfl)
      dsimp only
      rw [hN.2.2.2, hne, Nat.sub_self, hN.2.1, D_zero' (near_3 (lo := 0) hmx).2.2.1 (near_3 (lo := 0) hmx).2.2.2]
    · rw [x1, x2, x3, eh, el, en]
      unfold hlsF
      rw [L, fmax_N vr vg vb, fmin_N vr vg vb, cmp_eq_N vl vh, if_pos (decide_eq_true hne), hue_nil]
      refine Prod.ext rfl (Prod.ext ?_ ?_)
      · dsimp only
        congr 1
      · dsimp only
        rw [hN.2.2.2, hN.2.2.1, D_zero'' (Nat.sub_eq_zero_of_le (Nat.le_of_eq hne.symm)) (near_3 hmx).1 (near_3 hmx).2.1]
  · have hp : 1 ≤ max r (max g b) := Nat.lt_of_le_of_lt (Nat.zero_le _) (Nat.lt_of_le_of_ne hle hne)
    obtain ⟨s, a, d, H⟩ := hue_any ur ug ub hne
    refine ⟨s, a, d, ⟨H.way, H.s6, H.ad, H.d64, ?_, ?_⟩, .inr ⟨H.la, H.ld⟩⟩
    · rw [x1, x2, x3, eh, el]
      have q := H.hue
      unfold hsvF
      rw [fmax_N vr vg vb, fmin_N vr vg vb, cmp_eq_N vl vh, if_neg (by simp [hne]), q, t_sub _ vh _ (Nat.lt_succ_of_le hle)]
      refine Prod.ext rfl (Prod.ext ?_ rfl)
      dsimp only
      rw [hN.2.2.2, hN.2.1, max_one hp]
      rfl
    · rw [x1, x2, x3, eh, el, en]
      have q := H.hue
      unfold hlsF
      rw [L, hlsLow_N vr vg vb, fmax_N vr vg vb, fmin_N vr vg vb, cmp_eq_N vl vh, if_neg (by simp [hne]), q, t_sub _ vh _ (Nat.lt_succ_of_le hle), t_add _ vh _ (Nat.lt_succ_of_le hle), t_two _ vh _ (Nat.lt_succ_of_le hle)]
      refine Prod.ext rfl (Prod.ext ?_ ?_)
      · dsimp only
        congr 1
      · dsimp only
        rw [hN.2.2.2, hN.2.2.1]
        by_cases hl : max r (max g b) + min r (min g b) ≤ 64
        · rw [if_pos (decide_eq_true hl), near_1 hle hmx hl hne]
          rfl
        · rw [if_neg (by simp [hl]), near_2 hle hmx hl hne]
          rfl
theorem way_lohi {R G B : Int} : (wayF R G B).2.2 = hiI R G B - loI R G B ∨ (wayF R G B).2.2 = 1 := by
  unfold wayF
  split
  · exact .inr rfl
  · split
    · exact .inl rfl
    · split
      · exact .inl rfl
      · exact .inl rfl
theorem max3_P {P : Int → Prop} {x y z : Int} (hx : P x) (hy : P y) (hz : P z) : P (max x (max y z)) := by
  rw [Int.max_def, Int.max_def]
  repeat' split
  all_goals assumption
theorem min3_P {P : Int → Prop} {x y z : Int} (hx : P x) (hy : P y) (hz : P z) : P (min x (min y z)) := by
  rw [Int.min_def, Int.min_def]
  repeat' split
  all_goals assumption
theorem spread9 {w c d' X Y : Int} (hc : 0 < c) (hX : ∃ p, (0 ≤ p ∧ p < 10) ∧ X = w + c * p) (hY : ∃ q, (0 ≤ q ∧ q < 10) ∧ Y = w + c * q) (e : c * d' = X - Y) : d' ≤ 9 := by
  obtain ⟨p, ⟨_, p2⟩, rfl⟩ := hX
  obtain ⟨q, ⟨q1, _⟩, rfl⟩ := hY
  have e2 : c * d' = c * (p - q) := by rw [Int.mul_sub, e]; omega
  have e3 : d' = p - q := Int.eq_of_mul_eq_mul_left (Int.ne_of_gt hc) e2
  omega
theorem pos_of_scale {T : Nat} {z x : Int} (e : z = (T : Int) * x) (h : 0 ≤ z) (hT : 1 ≤ T) : 0 ≤ x := by
  false_or_by_contra
  have e2 : (T : Int) * x ≤ (T : Int) * -1 := Int.mul_le_mul_of_nonneg_left (by omega) (by omega)
  omega
theorem scale_nat {a d : Nat} {c a' d' : Int} (hc : 1 ≤ c) (hc4 : c ≤ 4) (ea : (a : Int) = c * a') (ed : (d : Int) = c * d') (had : a < d) (h9 : d' ≤ 9) : ∃ (T A D : Nat), T ≤ 4 ∧ 1 ≤ T ∧ a = A * T ∧ d = D * T ∧ 1 ≤ D ∧ D ≤ 9 ∧ A < D := by
  obtain ⟨T, rfl⟩ : ∃ T : Nat, c = T := ⟨c.toNat, by omega⟩
  have hT : 1 ≤ T := Int.ofNat_le.mp hc
  obtain ⟨A, rfl⟩ : ∃ A : Nat, a' = A := ⟨a'.toNat, (Int.toNat_of_nonneg (pos_of_scale ea (Int.natCast_nonneg _) hT)).symm⟩
  obtain ⟨D, rfl⟩ : ∃ D : Nat, d' = D := ⟨d'.toNat, (Int.toNat_of_nonneg (pos_of_scale ed (Int.natCast_nonneg _) hT)).symm⟩
  rw [← Int.natCast_mul] at ea ed
  have ea := Int.ofNat.inj ea
  have ed := Int.ofNat.inj ed
  have hlt : A < D := Nat.lt_of_mul_lt_mul_left (a := T) (by rw [← ea, ← ed]; exact had)
  exact ⟨T, A, D, Int.ofNat_le.mp hc4, hT, ea.trans (Nat.mul_comm _ _), ed.trans (Nat.mul_comm _ _), Nat.lt_of_le_of_lt (Nat.zero_le _) hlt, Int.ofNat_le.mp h9, hlt⟩
/-- the hue of a colour of the law's, reckoned on figures -/
theorem hue_isR {x : Int} {s a d : Nat} (H : FloatsAt (colR x) (colG x) (colB x) s a d) (hl : (s = 0 ∧ a = 0 ∧ d = 1) ∨ (Lin (colR x) (colG x) (colB x) a ∧ Lin (colR x) (colG x) (colB x) d)) : IsR (hueS s a d) (s * d + a) (6 * d) := by
  rcases hl with ⟨rfl, rfl, rfl⟩ | ⟨la, ld⟩
  · have := chk_isR 1 (by decide) (H_chk 0 (by decide) 0 (by decide) 0 (by decide))
    exact this
  · unfold colR colG colB at la ld
    obtain ⟨a', ea⟩ := lin_scale la
    obtain ⟨d', ed⟩ := lin_scale ld
    have hd : ((d : Nat) : Int) = hiI (colR x) (colG x) (colB x) - loI (colR x) (colG x) (colB x) ∨ ((d : Nat) : Int) = 1 := by
      have q := way_lohi (R := colR x) (G := colG x) (B := colB x)
      rw [H.way] at q
      exact q
    have f0 := fm (x := x) (b := 10) (by decide)
    have f1 := fm (x := x.fdiv 10) (b := 10) (by decide)
    have f2 := fm (x := x.fdiv 100) (b := 10) (by decide)
    have ft := fm (x := x.fdiv 1000) (b := 4) (by decide)
    unfold hiI loI colR colG colB at hd
    have hs := H.s6
    have had := H.ad
    have hd64 := H.d64
    clear H la ld
    generalize x.fmod 10 = p0 at *
    generalize (x.fdiv 10).fmod 10 = p1 at *
    generalize (x.fdiv 100).fmod 10 = p2 at *
    generalize (x.fdiv 4000).fmod 29 = w at *
    generalize (x.fdiv 1000).fmod 4 = t at *
    have key : ∃ (T A D : Nat), T ≤ 4 ∧ 1 ≤ T ∧ a = A * T ∧ d = D * T ∧ 1 ≤ D ∧ D ≤ 9 ∧ A < D := by
      have c1 : 1 ≤ t + 1 := by clear hd f0 f1 f2 had hd64 ea ed hs; omega
      have c4 : t + 1 ≤ 4 := by clear hd f0 f1 f2 had hd64 ea ed hs; omega
      refine scale_nat c1 c4 ea ed had ?_
      rcases hd with hd | hd
      · exact spread9 c1 (max3_P (P := fun v => ∃ p, (0 ≤ p ∧ p < 10) ∧ v = w + (t + 1) * p) ⟨_, f0, rfl⟩ ⟨_, f1, rfl⟩ ⟨_, f2, rfl⟩) (min3_P (P := fun v => ∃ p, (0 ≤ p ∧ p < 10) ∧ v = w + (t + 1) * p) ⟨_, f0, rfl⟩ ⟨_, f1, rfl⟩ ⟨_, f2, rfl⟩) (ed.symm.trans hd)
      · have e0 : (t + 1) * d' = 1 := ed.symm.trans hd
        false_or_by_contra
        have e1 : 1 * d' ≤ (t + 1) * d' := Int.mul_le_mul_of_nonneg_right c1 (by clear f0 f1 f2 had hd64 ea ed hs c1 c4 hd; omega)
        clear f0 f1 f2 had hd64 ea ed hs c1 c4 hd
        omega
    obtain ⟨T, A, D, hT, hT1, rfl, rfl, hD1, hD, hA⟩ := key
    have e : hueS s (A * T) (D * T) = hueS s A D := hue_eq (Nat.le_of_lt had) (by omega) hd64 (by omega) hD1 (by omega) (by ac_rfl)
    rw [e]
    obtain ⟨k, rfl⟩ : ∃ k, D = k + 1 := ⟨D - 1, by omega⟩
    have c := chk_isR T (by omega) (H_chk s hs k (by omega) A hA)
    rw [Nat.add_mul, Nat.mul_assoc, Nat.mul_assoc] at c
    exact c
theorem near_ge {m M : Int} (h0 : 0 ≤ m) (h2 : M ≤ 64) : M - m ≤ min (M + m) (128 - M - m) := Int.le_min.mpr ⟨by omega, by omega⟩
theorem near_le {m M : Int} : min (M + m) (128 - M - m) ≤ 64 := by omega
theorem col_ok (x : Int) : ColOk (colR x) (colG x) (colB x) := by
  have hb := col_bounds x
  obtain ⟨s, a, d, H, _⟩ := floats_any hb
  obtain ⟨m0, mM, M64⟩ := mm64 hb
  have e := H.way
  exact ⟨by rw [e]; exact Int.natCast_nonneg _, by rw [e]; exact Int.ofNat_lt.mpr H.ad, by rw [e]; exact Int.ofNat_le.mpr H.d64, Int.sub_nonneg_of_le mM, Int.sub_le_self _ m0, M64, near_ge m0 M64, near_le⟩
theorem sgn6 {a b c d : Int} : sgnI (a * (6 * b)) (c * (6 * d)) = sgnI (a * b) (c * d) := by
  rw [Int.mul_left_comm a, Int.mul_left_comm c]
  generalize a * b = p
  generalize c * d = q
  rcases Int.lt_trichotomy p q with h | h | h
  · rw [sgnI_lt h, sgnI_lt (by omega)]
  · rw [sgnI_eq h, sgnI_eq (by omega)]
  · rw [sgnI_gt h, sgnI_gt (by omega)]
theorem frac_eq {s a d s' a' d' : Nat} (h : a < d) (h' : a' < d') (e : (s * d + a) * (6 * d') = (s' * d' + a') * (6 * d)) : s = s' ∧ a * d' = a' * d := by
  have e1 : (s * d + a) * d' = (s' * d' + a') * d := by
    have := e
    rw [Nat.mul_left_comm, Nat.mul_left_comm (s' * d' + a')] at this
    exact Nat.eq_of_mul_eq_mul_left (by decide) this
  have x1 : (s * d + a) * d' = s * (d * d') + a * d' := by rw [Nat.add_mul, Nat.mul_assoc]
  have x2 : (s' * d' + a') * d = s' * (d * d') + a' * d := by rw [Nat.add_mul, Nat.mul_assoc, Nat.mul_comm d' d]
  rw [x1, x2] at e1
  have p1 : a * d' < d * d' := Nat.mul_lt_mul_of_pos_right h (by omega)
  have p2 : a' * d < d * d' := by rw [Nat.mul_comm d d']; exact Nat.mul_lt_mul_of_pos_right h' (by omega)
  rcases Nat.lt_trichotomy s s' with k | k | k
  · have := Nat.mul_le_mul_right (d * d') (show s + 1 ≤ s' from k)
    rw [Nat.add_mul, Nat.one_mul] at this
    omega
  · subst k
    exact ⟨rfl, by omega⟩
  · have := Nat.mul_le_mul_right (d * d') (show s' + 1 ≤ s from k)
    rw [Nat.add_mul, Nat.one_mul] at this
    omega
theorem mx1 {x : Int} (h : x ≤ 64) : ∃ M : Nat, max x 1 = (M : Int) ∧ 1 ≤ M ∧ M ≤ 64 ∧ x ≤ (M : Int) := ⟨(max x 1).toNat, by omega, by omega, by omega, by omega⟩
theorem lo_nn {R G B : Int} (h : In64 R G B) : 0 ≤ loI R G B := by
  obtain ⟨⟨a1, _⟩, ⟨b1, _⟩, ⟨e1, _⟩⟩ := h
  exact Int.le_min.mpr ⟨a1, Int.le_min.mpr ⟨b1, e1⟩⟩
/-- the floats of two colours stand as the shares do -/
theorem told_law (x y : Int) : List.zipWith sgnF (floatsI (colR x) (colG x) (colB x)) (floatsI (colR y) (colG y) (colB y)) = plainI (colR x) (colG x) (colB x) (colR y) (colG y) (colB y) := by
  obtain ⟨s, a, d, H, hl⟩ := floats_any (col_bounds x)
  obtain ⟨s', a', d', H', hl'⟩ := floats_any (col_bounds y)
  have I := hue_isR H hl
  have I' := hue_isR H' hl'
  have C := col_ok x
  have C' := col_ok y
  have bx := col_bounds x
  have by' := col_bounds y
  obtain ⟨w1, h6, had, hd64, v1, l1⟩ := H
  obtain ⟨w2, h6', had', hd64', v2, l2⟩ := H'
  obtain ⟨_, _, _, c4, c5, c6, c7, c8⟩ := C
  obtain ⟨_, _, _, c4', c5', c6', c7', c8'⟩ := C'
  unfold plainI sharesI floatsI
  rw [v1, v2, l1, l2, w1, w2]
  have hlo := lo_nn bx
  have hlo' := lo_nn by'
  clear bx by'
  generalize hiI (colR x) (colG x) (colB x) = hi at *
  generalize loI (colR x) (colG x) (colB x) = lo at *
  generalize nearI (colR x) (colG x) (colB x) = ne at *
  generalize hiI (colR y) (colG y) (colB y) = hi' at *
  generalize loI (colR y) (colG y) (colB y) = lo' at *
  generalize nearI (colR y) (colG y) (colB y) = ne' at *
  dsimp only [List.zipWith]
  obtain ⟨n1, n2, n3, n4⟩ : hi ≤ 64 ∧ hi' ≤ 64 ∧ ne ≤ 64 ∧ ne' ≤ 64 := by omega
  obtain ⟨M, eM, M1, M2, M3⟩ := mx1 n1
  obtain ⟨M', eM', M1', M2', M3'⟩ := mx1 n2
  obtain ⟨P, eP, P1, P2, P3⟩ := mx1 n3
  obtain ⟨P', eP', P1', P2', P3'⟩ := mx1 n4
  rw [eM, eM', eP, eP']
  obtain ⟨D, eD⟩ : ∃ D : Nat, hi - lo = D := ⟨(hi - lo).toNat, by omega⟩
  obtain ⟨D', eD'⟩ : ∃ D : Nat, hi' - lo' = D := ⟨(hi' - lo').toNat, by omega⟩
  have q1 : D ≤ M := by omega
  have q1' : D' ≤ M' := by omega
  have q2 : D ≤ P := by omega
  have q2' : D' ≤ P' := by omega
  rw [eD, eD']
  have f0 : sgnF (hueS s a d) (hueS s' a' d') = sgnI (((s : Int) * d + a) * d') (((s' : Int) * d' + a') * d) := by
    have z := sgnF_of I I' (by omega) (by omega) (fun e => by obtain ⟨rfl, e2⟩ := frac_eq had had' e; exact hue_eq (Nat.le_of_lt had) (by omega) hd64 (Nat.le_of_lt had') (by omega) hd64' e2)
    rw [z]
    refine Eq.trans ?_ sgn6
    congr 1
  have f1 : sgnF (Dv (D : Int).toNat (M : Int).toNat) (Dv (D' : Int).toNat (M' : Int).toNat) = sgnI ((D : Int) * M') ((D' : Int) * M) := sgn_D q1 M1 M2 q1' M1' M2'
  have f2 : sgnF (fN hi.toNat) (fN hi'.toNat) = sgnI (hi * 1) (hi' * 1) := by
    rw [sgn_V (by omega) (by omega)]
    congr 1 <;> omega
  have f3 : sgnF (Lv (hi + lo).toNat) (Lv (hi' + lo').toNat) = sgnI ((hi + lo) * 1) ((hi' + lo') * 1) := by
    rw [sgn_L (by omega) (by omega)]
    congr 1 <;> omega
  have f4 : sgnF (Dv (D : Int).toNat (P : Int).toNat) (Dv (D' : Int).toNat (P' : Int).toNat) = sgnI ((D : Int) * P') ((D' : Int) * P) := sgn_D q2 P1 P2 q2' P1' P2'
  rw [f0, f1, f2, f3, f4]
/-- both systems tell one hue -/
theorem hue_law (x : Int) : (hlsF (f64 (colR x)) (f64 (colG x)) (f64 (colB x))).1 = (hsvF (f64 (colR x)) (f64 (colG x)) (f64 (colB x))).1 ∧ (Float64.cmp (hsvF (f64 (colR x)) (f64 (colG x)) (f64 (colB x))).1 (hsvF (f64 (colR x)) (f64 (colG x)) (f64 (colB x))).1 == some .eq) = true := by
  obtain ⟨s, a, d, H, hl⟩ := floats_any (col_bounds x)
  have I := hue_isR H hl
  rw [H.hsv, H.hls]
  exact ⟨rfl, isR_eq I⟩
end Mine
end

section
open PySem PySem.W PySem.Calls PySem.Spec PyProof.Rows PyProof.Rows.LCg
set_option maxRecDepth 100000
set_option maxHeartbeats 8000000
namespace Mine
section
variable {prog : Program} {w : World} {A : Around} {E : Value → Shared → Prop} {Q : Flow → Shared → Prop} {s : Shared} {env : Env} {h₀ : Heap} {L : Addr}
/-- a for over a list of the ledger -/
theorem for_led {target : PySem.Expr} {body : List Stmt} {l : Addr} {vs : Array Value} {cv : Nat} {m₀ : Str → Option Value} {news₀ : List (Addr × Obj)} (J : Nat → (Str → Option Value) → List (Addr × Obj) → Prop)
    (hh : A.handled = none) (hJ : ∀ i m news, J i m news → (l, W.listOf vs cv) ∈ news) (F : Fr h₀ L s.heap m₀) (N : News h₀ L s.heap news₀) (h0 : J 0 m₀ news₀)
    (turn : ∀ (i : Nat) (v : Value) (m : Str → Option Value) (news : List (Addr × Obj)) (it : Obj) (I : Addr) (h : Heap) (tk : Nat), vs[i]? = some v → J i m news → Fr h₀ L h m → News h₀ L h ((I, it) :: news) → (∀ p ∈ news, p.1 ≠ I) →
      wpAny (model prog w) A (assign target env v) (fun _ s₂ => wpAny (model prog w) A (execs body env) (FsPost h₀ L s I it (J (i + 1)) Q) E s₂) E { s with heap := h, toks := tk })
    (fin : ∀ (m : Str → Option Value) (news : List (Addr × Obj)) (h : Heap) (tk : Nat), J vs.size m news → Fr h₀ L h m → News h₀ L h news → Q .next { s with heap := h, toks := tk })
    (hE : PassesOwn (model prog w) A env E := by passes_own) :
    wpAny (model prog w) A (pyIter (.ref l)) (fun it s₂ => codeAny (model prog w) A (.forLoop target it body [] env) (fun r s' => match r with | .ok f => Q f s' | .error e => cameBackBy (model prog w) A env E e s') s₂) E s := by
  have hls : s.heap.IsList l vs := ⟨_, (N _ (hJ _ _ _ h0)).1, rfl, _, rfl⟩
  have hlt : l < s.heap.objs.size := by obtain ⟨_, e, _⟩ := hls; exact Heap.lt_size e
  have hne : l ≠ s.heap.objs.size := Nat.ne_of_lt hlt
  refine wpAny_pyIter_list hls ?_
  have W := Walks.list (prog := prog) (w := w) hh s.heap.objs.size l hne vs
  have hLI : L ≠ s.heap.objs.size := Nat.ne_of_lt F.ns.lt
  have hIn : h₀.get? s.heap.objs.size = none := by
    cases e : h₀.get? s.heap.objs.size with
    | none => rfl
    | some o => exact absurd (Heap.lt_size (F.keep _ _ e)) (Nat.lt_irrefl _)
  refine codeAny_forLoop_any
    (fun k s' => ∃ h' tk m' news' i it, s' = { s with heap := h', toks := tk } ∧ h'.IsListIter s.heap.objs.size l i ∧ Fr h₀ L h' m' ∧ News h₀ L h' ((s.heap.objs.size, it) :: news') ∧ (∀ p ∈ news', p.1 ≠ s.heap.objs.size) ∧ J i m' news' ∧ i ≤ vs.size ∧ k = vs.size + 1 - i) ?_ (vs.size + 1)
    ⟨_, s.toks, m₀, news₀, 0, _, rfl, ⟨_, Heap.get?_push_size _ rfl, rfl, rfl⟩, F.push _, News.push F N _, (fun p hp e => absurd (Heap.lt_size (N p hp).1) (e ▸ Nat.lt_irrefl _)), h0, Nat.zero_le _, rfl⟩
  rintro k s' ⟨H, tk, m', news', i, it, rfl, hit, F', N', hof, hJi, hi, rfl⟩
  have hlH : H.IsList l vs := ⟨_, (N' _ (.tail _ (hJ _ _ _ hJi))).1, rfl, _, rfl⟩
  by_cases hlt' : i < vs.size
  · refine W.item i _ _ _ hlt' ⟨hit, hlH⟩ fun v h₁ tk₁ hv hst hk => ?_
    obtain ⟨hit₁, hl₁⟩ := hst
    obtain ⟨o₁, ho₁, hc₁, hd₁⟩ := id hit₁
    have old : ∀ b o, H.get? b = some o → b ≠ s.heap.objs.size → h₁.get? b = some o := fun b o e hb => hk b o (fun q => hb (List.mem_singleton.mp q)) e
    have F₁ : Fr h₀ L h₁ m' := by
      obtain ⟨oL, es, ep, hL, r⟩ := F'.ns
      exact ⟨⟨oL, es, ep, old _ _ hL hLI, r⟩, fun b o e => old b o (F'.keep b o e) (fun q => by rw [q, hIn] at e; cases e), F'.above⟩
    have N₁ : News h₀ L h₁ ((s.heap.objs.size, o₁) :: news') := fun p hp => by
      rcases List.mem_cons.mp hp with rfl | hp
      · exact ⟨ho₁, Ne.symm hLI, hIn⟩
      · have := N' p (.tail _ hp)
        exact ⟨old _ _ this.1 (hof p hp), this.2⟩
    refine letOwned_other ho₁ hc₁ (by decide) ?_
    refine wpAny_passesOwn hE ?_
    refine wpAny_mono (turn i v m' news' o₁ s.heap.objs.size h₁ tk₁ (by simpa using hv) hJi F₁ N₁ hof) (fun _ s₂ hb => ?_) fun _ _ e => e
    refine wpAny_mono (wpAny_passesOwn hE hb) (fun f s₃ p => ?_) fun _ _ e => e
    have key : FsPost h₀ L s s.heap.objs.size o₁ (J (i + 1)) Q .next s₃ → ∃ mm, mm < vs.size + 1 - i ∧ ∃ h' tk m' news' i it, s₃ = { s with heap := h', toks := tk } ∧ h'.IsListIter s.heap.objs.size l i ∧ Fr h₀ L h' m' ∧ News h₀ L h' ((s.heap.objs.size, it) :: news') ∧ (∀ p ∈ news', p.1 ≠ s.heap.objs.size) ∧ J i m' news' ∧ i ≤ vs.size ∧ mm = vs.size + 1 - i := by
      rintro ⟨h', tk', m'', news'', e, F'', N'', hof'', hJ''⟩
      exact ⟨vs.size + 1 - (i + 1), by omega, h', tk', m'', news'', i + 1, o₁, e, ⟨o₁, (N'' _ (.head _)).1, hc₁, hd₁⟩, F'', N'', hof'', hJ'', hlt', rfl⟩
    cases f with
    | ret v => exact p
    | brk => exact p
    | next => exact key p
    | cont => exact key p
  · have hin : i = vs.size := by omega
    subst hin
    refine W.done _ _ _ ⟨hit, hlH⟩ fun h₁ tk₁ hk => wpAny_execs_nil ?_
    have old : ∀ b o, H.get? b = some o → b ≠ s.heap.objs.size → h₁.get? b = some o := fun b o e hb => hk b o (fun q => hb (List.mem_singleton.mp q)) e
    have F₁ : Fr h₀ L h₁ m' := by
      obtain ⟨oL, es, ep, hL, r⟩ := F'.ns
      exact ⟨⟨oL, es, ep, old _ _ hL hLI, r⟩, fun b o e => old b o (F'.keep b o e) (fun q => by rw [q, hIn] at e; cases e), F'.above⟩
    exact fin m' news' h₁ tk₁ hJi F₁ fun p hp => by
      have := N' p (.tail _ hp)
      exact ⟨old _ _ this.1 (hof p hp), this.2⟩
/-- a list of ints that a comprehension over range(n) makes: the element is reckoned, nothing else is made -/
theorem ints_comp {elt iter : PySem.Expr} {x y : Str} {px py : Pos} {scope : Scope} {cl : List (Str × Addr)} {pos spos : Pos} {news : List (Addr × Obj)} {m : Str → Option Value} {n : Nat} (g : Nat → Int)
    (F : Fr h₀ L s.heap m) (hLe : env.locals = L)
    (hsw : swapsWith (.ListComp elt [⟨.Name x px, iter, [], 0⟩] scope pos) (some (.Name y py)) spos.line env = pure true)
    (hclos : closureFor scope env = pure cl) (hcell : ∀ z ∈ scope.names, z.2 ≠ .cell) (hkind : scope.kind = .function)
    (hnames : ∀ z ∈ scope.names, z.2 = .local → scope.names.lookup z.1 = some .local) (hx : scope.names.lookup x = some .local)
    (hy : env.kindOf y = some .local) (hp : (env.scope.kind == .class || (env.scope.kind == .module && env.locals != env.globals)) = false) (hh : A.handled = none)
    (hs : ∀ x, foldedSetIterable iter env x = pure x) (hsz : n ≤ sizeLine) (hsm : Builtin.Range.small 0 n 1 = true)
    (hsrc : wpAny (model prog w) A (eval iter env) (fun v s' => ∃ r t u v' h' tk', v = .ref r ∧ s' = { s with heap := h', toks := tk' } ∧ Fr h₀ L h' m ∧ News h₀ L h' news ∧ IsRange h' r 0 n 1 t u v') E s)
    (helt : ∀ (j : Nat) (t : Tok) I oI C oC D m₂ ys h tk (E' : Value → Shared → Prop), j < n → NsObj oC m₂ → m₂ x = some (.int j t) → Fr h₀ L h m → News h₀ L h ((I, oI) :: (C, oC) :: (D, lst ys) :: news) →
      wpAny (model prog w) A (eval elt (compEnvC scope cl C env)) (fun v s' => ∃ t' h' tk', v = .int (g j) t' ∧ s' = { s with heap := h', toks := tk' } ∧ Fr h₀ L h' m ∧ News h₀ L h' ((I, oI) :: (C, oC) :: (D, lst ys) :: news)) E' { s with heap := h, toks := tk })
    (fin : ∀ ys D h tk, IntsAre ys ((List.range n).map g) → Fr h₀ L h (fun q => if q = y then some (.ref D) else m q) → News h₀ L h ((D, lst ys) :: news) → (∀ p ∈ news, p.1 ≠ D) → Q .next { s with heap := h, toks := tk }) :
    wpAny (model prog w) A (exec (.Assign [.Name y py] (.ListComp elt [⟨.Name x px, iter, [], 0⟩] scope pos) spos) env) Q E s := by
  refine LCg.Assign_ListComp_U F hLe hsw hclos hcell hkind hnames hx hy hp ?_ hs
  refine wpAny_mono hsrc (fun v s₁ h₁ => ?_) fun _ _ e => e
  obtain ⟨r, t, u, v', h', tk', rfl, rfl, F', N', hr⟩ := h₁
  refine LCg.CompSrc.range (n := n) hh F' N' hr hsm (by rw [rangeSize_nat]; simp) hsz fun gH => ?_
  have off1 : ∀ {D : Addr} {l : List (Addr × Obj)}, Off1 D l → ∀ p ∈ l, p.1 ≠ D := by
    intro D l
    induction l with
    | nil => intro _ p hp; cases hp
    | cons q r ih =>
      intro h p hp
      rcases List.mem_cons.mp hp with rfl | hp
      · exact h.1
      · exact ih h.2 p hp
  have key : ∀ (k i : Nat) (ys : List Value), i + k = n → IntsAre ys ((List.range i).map g) → CompRest prog w A h₀ L m env elt x scope cl { s with heap := gH, toks := tk' } (fun _ => True) (fun i v => ∃ t, v = .int (0 + (i : Int)) t) (FinA h₀ L m { s with heap := gH, toks := tk' } y Q) k i ys news := by
    intro k
    induction k with
    | zero =>
      intro i ys hi hI
      refine CompRest.zero fun D h tk F2 N2 o2 => ?_
      rw [show i = n by omega] at hI
      exact fin ys D h tk hI F2 N2 (off1 o2)
    | succ k ih =>
      intro i ys hi hI
      refine CompRest.succ ?_
      rintro v I oI C oC D m₂ h tk E' ⟨t, rfl⟩ hC hx' F2 N2 off ne
      rw [Int.zero_add] at hx' 
      refine wpAny_mono (helt i t I oI C oC D m₂ ys h tk E' (by omega) hC hx' F2 N2) (fun y' s₂ h₂ => ?_) fun _ _ e => e
      obtain ⟨t', h', tk'', rfl, rfl, F3, N3⟩ := h₂
      refine ⟨h', tk'', news, rfl, F3, N3, off, trivial, ih (i + 1) _ (by omega) ?_⟩
      rw [List.range_succ, List.map_append]
      exact hI.append (.cons _ _ .nil)
  exact key n 0 [] (by omega) .nil
end
end Mine
end

section
open PySem PySem.W PySem.Calls PySem.Spec PyProof.Rows PyProof.Rows.LCg
set_option maxRecDepth 100000
set_option maxHeartbeats 8000000
namespace Mine
theorem WishL.nil {news : List (Addr × Obj)} : WishL #[] news [] := ⟨rfl, fun i k d h => by simp at h⟩
theorem WishL.snoc {ys : List Value} {es : List (Addr × Obj)} {ks : List (Int × Int)} {P : Addr} {k d : Int} {t1 t2 : Tok} {c : Nat} (h : WishL ys.toArray es ks) :
    WishL (ys ++ [Value.ref P]).toArray ((P, W.listOf #[.int k t1, .int d t2] c) :: es) (ks ++ [(k, d)]) := by
  have h1 : ys.length = ks.length := by simpa using h.1
  refine ⟨by simp [h1], fun i k' d' hi => ?_⟩
  rcases Nat.lt_or_ge i ks.length with hlt | hge
  · rw [List.getElem?_append_left hlt] at hi
    obtain ⟨P', t1', t2', c', e1, e2⟩ := h.2 i k' d' hi
    refine ⟨P', t1', t2', c', ?_, .tail _ e2⟩
    have e3 : ys[i]? = some (.ref P') := by simpa using e1
    have : (ys ++ [Value.ref P])[i]? = some (.ref P') := by rw [List.getElem?_append_left (by rw [h1]; exact hlt)]; exact e3
    simpa using this
  · rcases Nat.eq_or_lt_of_le hge with heq | hgt
    · subst heq
      rw [List.getElem?_append_right (Nat.le_refl _), Nat.sub_self] at hi
      cases hi
      refine ⟨P, t1, t2, c, ?_, .head _⟩
      have : (ys ++ [Value.ref P])[ks.length]? = some (.ref P) := by rw [← h1, List.getElem?_append_right (Nat.le_refl _), Nat.sub_self]; rfl
      simpa using this
    · rw [List.getElem?_eq_none (by simp; omega)] at hi
      cases hi
section
variable {prog : Program} {w : World} {A : Around} {E : Value → Shared → Prop} {Q : Flow → Shared → Prop} {s : Shared} {env : Env} {h₀ : Heap} {L : Addr}
/-- a list of lists of two ints that a comprehension over range(n) makes -/
theorem pairs_comp {elt iter : PySem.Expr} {x y : Str} {px py : Pos} {scope : Scope} {cl : List (Str × Addr)} {pos spos : Pos} {news : List (Addr × Obj)} {m : Str → Option Value} {n : Nat} (g d : Nat → Int)
    (F : Fr h₀ L s.heap m) (hLe : env.locals = L)
    (hsw : swapsWith (.ListComp elt [⟨.Name x px, iter, [], 0⟩] scope pos) (some (.Name y py)) spos.line env = pure true)
    (hclos : closureFor scope env = pure cl) (hcell : ∀ z ∈ scope.names, z.2 ≠ .cell) (hkind : scope.kind = .function)
    (hnames : ∀ z ∈ scope.names, z.2 = .local → scope.names.lookup z.1 = some .local) (hx : scope.names.lookup x = some .local)
    (hy : env.kindOf y = some .local) (hp : (env.scope.kind == .class || (env.scope.kind == .module && env.locals != env.globals)) = false) (hh : A.handled = none)
    (hs : ∀ x, foldedSetIterable iter env x = pure x) (hsz : n ≤ sizeLine) (hsm : Builtin.Range.small 0 n 1 = true)
    (hsrc : wpAny (model prog w) A (eval iter env) (fun v s' => ∃ r t u v' h' tk', v = .ref r ∧ s' = { s with heap := h', toks := tk' } ∧ Fr h₀ L h' m ∧ News h₀ L h' news ∧ IsRange h' r 0 n 1 t u v') E s)
    (helt : ∀ (j : Nat) (t : Tok) I oI C oC D m₂ ys es h tk (E' : Value → Shared → Prop), j < n → NsObj oC m₂ → m₂ x = some (.int j t) → Fr h₀ L h m → News h₀ L h ((I, oI) :: (C, oC) :: (D, lst ys) :: (es ++ news)) →
      wpAny (model prog w) A (eval elt (compEnvC scope cl C env)) (fun v s' => ∃ P t1 t2 c h' tk', v = .ref P ∧ s' = { s with heap := h', toks := tk' } ∧ Fr h₀ L h' m ∧ News h₀ L h' ((P, W.listOf #[.int (g j) t1, .int (d j) t2] c) :: (I, oI) :: (C, oC) :: (D, lst ys) :: (es ++ news)) ∧
        (∀ q ∈ (I, oI) :: (C, oC) :: (D, lst ys) :: (es ++ news), q.1 < P)) E' { s with heap := h, toks := tk })
    (fin : ∀ ys es D h tk, WishL ys.toArray es ((List.range n).map fun j => (g j, d j)) → Fr h₀ L h (fun q => if q = y then some (.ref D) else m q) → News h₀ L h ((D, lst ys) :: (es ++ news)) → (∀ p ∈ es ++ news, p.1 ≠ D) → Q .next { s with heap := h, toks := tk }) :
    wpAny (model prog w) A (exec (.Assign [.Name y py] (.ListComp elt [⟨.Name x px, iter, [], 0⟩] scope pos) spos) env) Q E s := by
  refine LCg.Assign_ListComp_U F hLe hsw hclos hcell hkind hnames hx hy hp ?_ hs
  refine wpAny_mono hsrc (fun v s₁ h₁ => ?_) fun _ _ e => e
  obtain ⟨r, t, u, v', h', tk', rfl, rfl, F', N', hr⟩ := h₁
  refine LCg.CompSrc.range (n := n) hh F' N' hr hsm (by rw [rangeSize_nat]; simp) hsz fun gH => ?_
  have off1 : ∀ {D : Addr} {l : List (Addr × Obj)}, Off1 D l → ∀ p ∈ l, p.1 ≠ D := by
    intro D l
    induction l with
    | nil => intro _ p hp; cases hp
    | cons q r ih =>
      intro h p hp
      rcases List.mem_cons.mp hp with rfl | hp
      · exact h.1
      · exact ih h.2 p hp
  have key : ∀ (k i : Nat) (ys : List Value) (es : List (Addr × Obj)), i + k = n → WishL ys.toArray es ((List.range i).map fun j => (g j, d j)) → CompRest prog w A h₀ L m env elt x scope cl { s with heap := gH, toks := tk' } (fun _ => True) (fun i v => ∃ t, v = .int (0 + (i : Int)) t) (FinA h₀ L m { s with heap := gH, toks := tk' } y Q) k i ys (es ++ news) := by
    intro k
    induction k with
    | zero =>
      intro i ys es hi hI
      refine CompRest.zero fun D h tk F2 N2 o2 => ?_
      rw [show i = n by omega] at hI
      exact fin ys es D h tk hI F2 N2 (off1 o2)
    | succ k ih =>
      intro i ys es hi hI
      refine CompRest.succ ?_
      rintro v I oI C oC D m₂ h tk E' ⟨t, rfl⟩ hC hx' F2 N2 off ne
      rw [Int.zero_add] at hx'
      refine wpAny_mono (helt i t I oI C oC D m₂ ys es h tk E' (by omega) hC hx' F2 N2) (fun y' s₂ h₂ => ?_) fun _ _ e => e
      obtain ⟨P, t1, t2, c, h', tk'', rfl, rfl, F3, N3, hlt⟩ := h₂
      have offm := off.mem
      refine ⟨h', tk'', (P, W.listOf #[.int (g i) t1, .int (d i) t2] c) :: es ++ news, rfl, F3, ?_, ?_, trivial, ih (i + 1) _ _ (by omega) ?_⟩
      · intro q hq
        refine N3 q ?_
        simp only [List.mem_cons, List.cons_append] at hq ⊢
        rcases hq with h | h | h | h | h <;> simp [h]
      · refine Off3.of fun q hq => ?_
        rcases List.mem_cons.mp hq with rfl | hq
        · exact ⟨Ne.symm (Nat.ne_of_lt (hlt _ (.head _))), Ne.symm (Nat.ne_of_lt (hlt _ (.tail _ (.head _)))), Ne.symm (Nat.ne_of_lt (hlt _ (.tail _ (.tail _ (.head _)))))⟩
        · exact offm q hq
      · rw [List.range_succ, List.map_append]
        exact hI.snoc
  exact key n 0 [] [] (by omega) .nil
end
end Mine
end

section
open PySem PySem.W PySem.Calls PySem.Spec PyProof.Rows PyProof.Rows.LCg
set_option maxRecDepth 100000
set_option maxHeartbeats 8000000
namespace Mine
/-- the things of many colours, as they lie in a ledger -/
noncomputable def ThingsAre (G : List (Addr × Obj)) (ys : List Value) (xs : List Int) : Prop := ys.length = xs.length ∧ ∀ (i : Nat) (x : Int), xs[i]? = some x → ∃ D, ys[i]? = some (.ref D) ∧ ThingM G D (colR x) (colG x) (colB x)
theorem ThingsAre.nil {G : List (Addr × Obj)} : ThingsAre G [] [] := ⟨rfl, fun i x h => by simp at h⟩
theorem ThingsAre.snoc {G es : List (Addr × Obj)} {ys : List Value} {xs : List Int} {D : Addr} {x : Int} (h : ThingsAre G ys xs) (T : ThingM es D (colR x) (colG x) (colB x)) : ThingsAre (es ++ G) (ys ++ [.ref D]) (xs ++ [x]) := by
  refine ⟨by simp [h.1], fun i x' hi => ?_⟩
  rcases Nat.lt_or_ge i xs.length with hlt | hge
  · rw [List.getElem?_append_left hlt] at hi
    obtain ⟨D', e1, e2⟩ := h.2 i x' hi
    exact ⟨D', by rw [List.getElem?_append_left (by rw [h.1]; exact hlt)]; exact e1, e2.mono fun p hp => List.mem_append_right _ hp⟩
  · rcases Nat.eq_or_lt_of_le hge with heq | hgt
    · subst heq
      rw [List.getElem?_append_right (Nat.le_refl _), Nat.sub_self] at hi
      cases hi
      exact ⟨D, by rw [← h.1, List.getElem?_append_right (Nat.le_refl _), Nat.sub_self]; rfl, T.mono fun p hp => List.mem_append_left _ hp⟩
    · rw [List.getElem?_eq_none (by simp; omega)] at hi
      cases hi
theorem ThingsAre.mono {G G' : List (Addr × Obj)} {ys : List Value} {xs : List Int} (h : ThingsAre G ys xs) (k : ∀ p ∈ G, p ∈ G') : ThingsAre G' ys xs :=
  ⟨h.1, fun i x hi => let ⟨D, e1, e2⟩ := h.2 i x hi; ⟨D, e1, e2.mono k⟩⟩
/-- away from the tables and what they hold -/
noncomputable def Away (c5 c8 : Addr) (l : List (Addr × Obj)) : Prop := ∀ p ∈ l, p.1 ≠ 65 ∧ p.1 ≠ 58 ∧ p.1 ≠ c5 ∧ p.1 ≠ c8
/-- no address twice -/
noncomputable def Apart (G R : List (Addr × Obj)) : Prop := ∀ p ∈ G, ∀ q ∈ R, q.1 ≠ p.1
theorem mem_shift {α : Type} {a b c q : α} {es G R TL : List α} (hq : q ∈ a :: b :: c :: (es ++ G ++ R ++ TL)) : q ∈ es ++ ((a :: b :: c :: (G ++ R)) ++ TL) := by
  simp only [List.mem_cons, List.mem_append] at hq ⊢
  rcases hq with h | h | h | (((h | h) | h) | h) <;> simp [h]
theorem news_es {h₀ h h' : Heap} {L : Addr} {m : Str → Option Value} {news es : List (Addr × Obj)} (F : Fr h₀ L h m) (N : News h₀ L h' news) (he : ∀ p ∈ es, h'.get? p.1 = some p.2 ∧ h.get? p.1 = none) : News h₀ L h' (es ++ news) := by
  obtain ⟨oL, es', ep, hL, r⟩ := F.ns
  intro q hq
  rcases List.mem_append.mp hq with hq | hq
  · obtain ⟨e1, e2⟩ := he q hq
    refine ⟨e1, fun e => ?_, ?_⟩
    · rw [e, hL] at e2; cases e2
    · cases x : h₀.get? q.1 with
      | none => rfl
      | some o' => rw [F.keep _ _ x] at e2; cases e2
  · exact N q hq
theorem lst_away {h' : Heap} {h₀ : Heap} {L : Addr} {t5 t8 : Obj} {c5 c8 : Addr} {o5 o8 : Obj} {rest : List (Addr × Obj)} (TB : Tabs t5 t8 c5 c8 o5 o8) (N : News h₀ L h' (rest ++ tail4 t5 t8 c5 c8 o5 o8)) {a : Addr} {o : Obj} (ho : h'.get? a = some o) (hl : isLst o) : a ≠ 65 ∧ a ≠ 58 ∧ a ≠ c5 ∧ a ≠ c8 := by
  obtain ⟨its, c, rfl⟩ := hl
  have same : ∀ (d : Addr) (o : Obj), (d, o) ∈ tail4 t5 t8 c5 c8 o5 o8 → a = d → W.listOf its c = o := fun d o hd e => by
    have e2 := (N _ (List.mem_append_right _ hd)).1
    dsimp only at e2
    rw [← e, ho] at e2
    exact Option.some.inj e2
  have n5 : a ≠ 65 := fun e => by
    have := same 65 t5 (by simp [tail4]) e
    rcases TB.k5 with ⟨q, _⟩ | ⟨q, _⟩ <;> (rw [q] at this; cases this)
  have n8 : a ≠ 58 := fun e => by
    have := same 58 t8 (by simp [tail4]) e
    rcases TB.k8 with ⟨q, _⟩ | ⟨q, _⟩ <;> (rw [q] at this; cases this)
  refine ⟨n5, n8, fun e => ?_, fun e => ?_⟩
  · have := same c5 o5 (by simp [tail4]) e
    rcases TB.k5 with ⟨_, q⟩ | ⟨_, _, vs, t, q, _⟩
    · exact n5 (e.trans q)
    · rw [← this] at q; cases q
  · have := same c8 o8 (by simp [tail4]) e
    rcases TB.k8 with ⟨_, q⟩ | ⟨_, _, vs, t, q, _⟩
    · exact n8 (e.trans q)
    · rw [← this] at q; cases q
section
variable {w : World} {A₀ : Around} {h₀ base : Heap} {m mg mb : Str → Option Value} {p : Program} {loose : List Str} {mean : ExcName → Option Value}
  {dp un : Nat} {gd : Option (List Code)} {cn : Str} {cs : Scope} {L a : Addr} {ccd : Value} {cl : List (Str × Addr)} {outer : List Env} {s : Shared} {env : Env}
theorem things_rest {elt : PySem.Expr} {x : Str} {scope : Scope} {cl' : List (Str × Addr)} {Fin : List Value → List (Addr × Obj) → Prop} {ax : Addr} {its : Array Value} {nx : Nat} {xs : List Int} {R : List (Addr × Obj)}
    (B : Below A₀ base outer h₀) (X : (hd.heap_1 w.params).In h₀) (T : Top p loose mean mg mb h₀) (hk : cs.kind = .function) (hd : dp + 60 < recursionLimit) (hu : un + 8 * 60 < cLine)
    (hI : IntsAre its.toList xs) (hax : (ax, W.listOf its nx) ∈ R)
    (hcall : ∀ (y : Int) (t : Tok) I oI C oC D m₂ ys news h tk (Q' E' : Value → Shared → Prop), NsObj oC m₂ → m₂ x = some (.int y t) → Fr h₀ L h m → News h₀ L h ((I, oI) :: (C, oC) :: (D, lst ys) :: news) →
      wpAny (model PR w) (ktrTop dp un gd cn cs L a ccd cl outer) (call (.ref 138) [.int y t]) Q' E' { s with heap := h, toks := tk } → wpAny (model PR w) (ktrTop dp un gd cn cs L a ccd cl outer) (eval elt (compEnvC scope cl' C env)) Q' E' { s with heap := h, toks := tk })
    (fin : ∀ ys G t5 t8 c5 c8 o5 o8, ThingsAre G ys xs → Tabs t5 t8 c5 c8 o5 o8 → Away c5 c8 (G ++ R) → Apart G R → Fin ys (G ++ R ++ tail4 t5 t8 c5 c8 o5 o8)) :
    ∀ (k i : Nat) (ys : List Value) (G : List (Addr × Obj)) (t5 t8 : Obj) (c5 c8 : Addr) (o5 o8 : Obj), i + k = xs.length → ThingsAre G ys (xs.take i) → Tabs t5 t8 c5 c8 o5 o8 → Away c5 c8 (G ++ R) → Apart G R →
      CompRest PR w (ktrTop dp un gd cn cs L a ccd cl outer) h₀ L m env elt x scope cl' s (SrcAt h₀ ax its) (fun i v => its[i]? = some v) Fin k i ys (G ++ R ++ tail4 t5 t8 c5 c8 o5 o8) := by
  intro k
  induction k with
  | zero =>
    intro i ys G t5 t8 c5 c8 o5 o8 hi hT TB hA hAp
    rw [List.take_of_length_le (by omega)] at hT
    exact CompRest.zero (fin ys G t5 t8 c5 c8 o5 o8 hT TB hA hAp)
  | succ k ih =>
    intro i ys G t5 t8 c5 c8 o5 o8 hi hT TB hA hAp
    refine CompRest.succ ?_
    intro v I oI C oC D m₂ h tk E' hv hC hx F N off ne
    have hlt : i < xs.length := by omega
    obtain ⟨y, hy⟩ : ∃ y, xs[i]? = some y := ⟨_, List.getElem?_eq_getElem hlt⟩
    obtain ⟨t, rfl⟩ : ∃ t, v = .int y t := by
      have e : its.toList[i]? = some v := by simpa using hv
      obtain ⟨t, ht⟩ := hI.get i y hy
      rw [e] at ht
      exact ⟨t, Option.some.inj ht⟩
    refine hcall y t I oI C oC D m₂ ys _ h tk _ _ hC hx F N ?_
    have offm := off.mem
    have o65 := offm (65, t5) (by simp [tail4])
    have o58 := offm (58, t8) (by simp [tail4])
    have oc5 := offm (c5, o5) (by simp [tail4])
    have oc8 := offm (c8, o8) (by simp [tail4])
    have hrest : ((I, oI) :: (C, oC) :: (D, lst ys) :: (G ++ R)) ++ tail4 t5 t8 c5 c8 o5 o8 = (I, oI) :: (C, oC) :: (D, lst ys) :: (G ++ R ++ tail4 t5 t8 c5 c8 o5 o8) := rfl
    rw [← hrest] at N
    refine useT_base (s := { s with heap := h, toks := tk }) (d_all (x := y) (t1 := t)) TB B F X T hk N ?_ hd hu ?_
    · intro p hp
      rcases List.mem_cons.mp hp with rfl | hp
      · exact ⟨Ne.symm o65.1, Ne.symm o58.1, Ne.symm oc5.1, Ne.symm oc8.1⟩
      · rcases List.mem_cons.mp hp with rfl | hp
        · exact ⟨Ne.symm o65.2.1, Ne.symm o58.2.1, Ne.symm oc5.2.1, Ne.symm oc8.2.1⟩
        · rcases List.mem_cons.mp hp with rfl | hp
          · exact ⟨Ne.symm o65.2.2, Ne.symm o58.2.2, Ne.symm oc5.2.2, Ne.symm oc8.2.2⟩
          · exact hA p hp
    · intro v' h' tk' t5' t8' c5' c8' o5' o8' F' N' TB' n5 n8 S5 S8 hP
      obtain ⟨D', es, rfl, hM, hes⟩ := hP
      have live : ∀ q ∈ ((I, oI) :: (C, oC) :: (D, lst ys) :: (G ++ R)) ++ tail4 t5 t8 c5 c8 o5 o8, ∀ b : Addr, h.get? b = none → q.1 ≠ b := fun q hq b hb e => by
        have := (N q hq).1
        rw [e, hb] at this; cases this
      have liveI := live (I, oI) (by simp)
      have liveC := live (C, oC) (by simp)
      have liveD := live (D, lst ys) (by simp)
      have aw : ∀ q ∈ es, q.1 ≠ 65 ∧ q.1 ≠ 58 ∧ q.1 ≠ c5' ∧ q.1 ≠ c8' := fun q hq => lst_away TB' N' (hes q hq).1 (hes q hq).2.2
      have N2 := news_es F N' fun q hq => ⟨(hes q hq).1, (hes q hq).2.1⟩
      have offT : ∀ c c' : Addr, (c' = c ∨ h.get? c' = none) → (c ≠ I ∧ c ≠ C ∧ c ≠ D) → c' ≠ I ∧ c' ≠ C ∧ c' ≠ D := fun c c' hc ho => by
        rcases hc with rfl | hc
        · exact ho
        · exact ⟨Ne.symm (liveI _ hc), Ne.symm (liveC _ hc), Ne.symm (liveD _ hc)⟩
      refine ⟨h', tk', (es ++ G) ++ R ++ tail4 t5' t8' c5' c8' o5' o8', rfl, F', ?_, ?_, ?_, ?_⟩
      · intro q hq
        exact N2 q (mem_shift hq)
      · refine Off3.of fun q hq => ?_
        rcases List.mem_append.mp hq with hq | hq
        · rcases List.mem_append.mp hq with hq | hq
          · rcases List.mem_append.mp hq with hq | hq
            · have := (hes q hq).2.1
              exact ⟨Ne.symm (liveI _ this), Ne.symm (liveC _ this), Ne.symm (liveD _ this)⟩
            · exact offm q (by simp [hq])
          · exact offm q (by simp [hq])
        · simp only [tail4, List.mem_cons, List.not_mem_nil, or_false] at hq
          rcases hq with rfl | rfl | rfl | rfl
          · exact o65
          · exact o58
          · exact offT c5 c5' S5.weak oc5
          · exact offT c8 c8' S8.weak oc8
      · exact .inr ⟨_, by simp only [List.mem_append]; exact .inl (.inr hax), rfl, _, rfl⟩
      · refine ih (i + 1) (ys ++ [.ref D']) (es ++ G) t5' t8' c5' c8' o5' o8' (by omega) ?_ TB' ?_ ?_
        · rw [List.take_add_one, hy]
          exact hT.snoc hM
        · intro q hq
          rcases List.mem_append.mp hq with hq | hq
          · rcases List.mem_append.mp hq with hq | hq
            · exact aw q hq
            · have z := hA q (List.mem_append_left _ hq)
              exact ⟨z.1, z.2.1, n5 q (by simp [hq]), n8 q (by simp [hq])⟩
          · have z := hA q (List.mem_append_right _ hq)
            exact ⟨z.1, z.2.1, n5 q (by simp [hq]), n8 q (by simp [hq])⟩
        · intro q hq r hr
          rcases List.mem_append.mp hq with hq | hq
          · exact live r (by simp [hr]) _ (hes q hq).2.1
          · exact hAp q hq r hr
end
end Mine
end

section
open PySem PySem.W PySem.Calls PySem.Spec PyProof.Rows
set_option maxRecDepth 100000
set_option maxHeartbeats 4000000
namespace Mine
noncomputable def lawOf {v : Program} {a c d f g} {B : Prop} (_ : WalkO v a c d f g [] (fun x y => call x y) → B) := g
noncomputable def lawD := lawOf hd
end Mine
end

theorem Mine.fresh45 : True := by
  w_top off
  trivial
section
open PySem PySem.W PySem.Calls PySem.Spec PyProof.Rows
set_option maxRecDepth 100000
set_option maxHeartbeats 2000000
namespace Mine
/-- a thing, its places by number -/
theorem ThingM.sel {G : List (Addr × Obj)} {D : Addr} {R Gr B : Int} (T : ThingM G D R Gr B) : ∃ (Rw Sh Fl : Addr) (th : Tok) (ch cr cS cF : Nat) (vr vS vF : Array Value),
    (D, W.listOf #[.ref Rw, .ref Sh, .ref Fl, .float (hlsF (f64 R) (f64 Gr) (f64 B)).1 th] ch) ∈ G ∧ (Rw, W.listOf vr cr) ∈ G ∧ IntsAre vr.toList (rowI R Gr B) ∧ (Sh, W.listOf vS cS) ∈ G ∧ (Fl, W.listOf vF cF) ∈ G ∧
    (∀ j : Nat, j < 5 → ∃ Sj u v c, vS[j]? = some (.ref Sj) ∧ (Sj, W.listOf #[.int ((sharesI R Gr B).getD j (0, 0)).1 u, .int ((sharesI R Gr B).getD j (0, 0)).2 v] c) ∈ G) ∧
    (∀ j : Nat, j < 5 → ∃ t, vF[j]? = some (.float ((floatsI R Gr B).getD j 0) t)) := by
  obtain ⟨Rw, Sh, Fl, S0, S1, S2, S3, S4, ⟨ta, n1, a1⟩, ⟨vs, n2, a2, a2'⟩, ⟨n3, a3⟩, ⟨f1, f2, f3, f4, f5, n4, a4⟩, b0, b1, b2, b3, b4⟩ := T.it
  refine ⟨Rw, Sh, Fl, ta, n1, n2, n3, n4, vs, _, _, a1, a2, a2', a3, a4, ?_, ?_⟩
  · intro j hj
    have : j = 0 ∨ j = 1 ∨ j = 2 ∨ j = 3 ∨ j = 4 := by omega
    rcases this with rfl | rfl | rfl | rfl | rfl
    · obtain ⟨u, v, c, b⟩ := b0; exact ⟨S0, u, v, c, rfl, b⟩
    · obtain ⟨u, v, c, b⟩ := b1; exact ⟨S1, u, v, c, rfl, b⟩
    · obtain ⟨u, v, c, b⟩ := b2; exact ⟨S2, u, v, c, rfl, b⟩
    · obtain ⟨u, v, c, b⟩ := b3; exact ⟨S3, u, v, c, rfl, b⟩
    · obtain ⟨u, v, c, b⟩ := b4; exact ⟨S4, u, v, c, rfl, b⟩
  · intro j hj
    have : j = 0 ∨ j = 1 ∨ j = 2 ∨ j = 3 ∨ j = 4 := by omega
    rcases this with rfl | rfl | rfl | rfl | rfl
    · exact ⟨f1, rfl⟩
    · exact ⟨f2, rfl⟩
    · exact ⟨f3, rfl⟩
    · exact ⟨f4, rfl⟩
    · exact ⟨f5, rfl⟩
section
variable {prog : Program} {w : World} {A : Around} {E : Value → Shared → Prop} {Q : Value → Shared → Prop} {s : Shared} {h₀ : Heap} {L : Addr} {news : List (Addr × Obj)}
theorem ne_flt {a b : UInt64} {t u : Tok} (h : (Float64.cmp a b == some .eq) = true) (q : Q (.bool false) s) : wpAny (model prog w) A (compareOp .NotEq (.float a t) (.float b u)) Q E s := by
  refine PySem.AutoFloatOps.ne_0 ?_
  have e : (Float64.cmp a b != some Ordering.eq) = false := by
    show (!(Float64.cmp a b == some Ordering.eq)) = false
    rw [h]; rfl
  rw [e]; exact q
theorem ne_lists {a b : Addr} {vs us : Array Value} {c d : Nat} {P P' : List Int} (N : News h₀ L s.heap news) (m1 : (a, W.listOf vs c) ∈ news) (m2 : (b, W.listOf us d) ∈ news) (i1 : IntsAre vs.toList P) (i2 : IntsAre us.toList P') (e : P = P') (hu : A.units + 64 < cLine) (q : Q (.bool false) s) :
    wpAny (model prog w) A (compareOp .NotEq (.ref a) (.ref b)) Q E s := by
  subst e
  refine ne_intsK (vs := vs.toList) (us := us.toList) ?_ i1 ?_ i2 hu ?_
  · exact News.isList N m1
  · exact News.isList N m2
  · rw [decide_eq_true rfl]; exact q
theorem ne_ints {a b : Int} {t u : Tok} (h : a = b) (q : Q (.bool false) s) : wpAny (model prog w) A (compareOp .NotEq (.int a t) (.int b u)) Q E s := by
  subst h
  refine PyProof.Rows.ne_int ?_
  rw [bne_self_eq_false]; exact q
end
theorem max_in {x : Int} (h : x ≤ 1000) : 0 ≤ max x 1 ∧ max x 1 ≤ 1000 := ⟨Int.le_trans (by decide) (Int.le_max_right x 1), Int.max_le.mpr ⟨h, by decide⟩⟩
theorem shares_num {s a d : Nat} {hi lo nr : Int} (h6 : s < 6) (had : a < d) (h64 : d ≤ 64) (hlo : 0 ≤ lo) (c4 : 0 ≤ hi - lo) (c6 : hi ≤ 64) (c7 : hi - lo ≤ nr) (c8 : nr ≤ 64) :
    ((0 ≤ (s : Int) * d + a ∧ (s : Int) * d + a ≤ 1000) ∧ (0 ≤ (d : Int) ∧ (d : Int) ≤ 1000)) ∧ ((0 ≤ hi - lo ∧ hi - lo ≤ 1000) ∧ (0 ≤ max hi 1 ∧ max hi 1 ≤ 1000)) ∧ ((0 ≤ hi ∧ hi ≤ 1000) ∧ ((0 : Int) ≤ 1 ∧ (1 : Int) ≤ 1000)) ∧
      ((0 ≤ hi + lo ∧ hi + lo ≤ 1000) ∧ ((0 : Int) ≤ 1 ∧ (1 : Int) ≤ 1000)) ∧ ((0 ≤ hi - lo ∧ hi - lo ≤ 1000) ∧ (0 ≤ max nr 1 ∧ max nr 1 ≤ 1000)) := by
  have p := Nat.mul_le_mul (Nat.le_of_lt_succ h6) h64
  have e : (s : Int) * d + a = ((s * d + a : Nat) : Int) := rfl
  have n : (s : Int) * d + a ≤ 1000 := by rw [e]; exact Int.ofNat_le.mpr (Nat.le_trans (Nat.add_le_add p (Nat.le_trans (Nat.le_of_lt had) h64)) (by decide))
  have c9 : hi - lo ≤ 1000 := Int.le_trans c7 (Int.le_trans c8 (by decide))
  have b : (0 : Int) ≤ 1 ∧ (1 : Int) ≤ 1000 := by decide
  clear p h6
  exact ⟨⟨⟨by rw [e]; exact Int.natCast_nonneg _, n⟩, Int.natCast_nonneg _, Int.ofNat_le.mpr (Nat.le_trans h64 (by decide))⟩, ⟨⟨c4, c9⟩, max_in (Int.le_trans c6 (by decide))⟩, ⟨⟨by omega, Int.le_trans c6 (by decide)⟩, b⟩,
    ⟨⟨by omega, by omega⟩, b⟩, ⟨⟨c4, c9⟩, max_in (Int.le_trans c8 (by decide))⟩⟩
theorem shares_ok (x : Int) : ∀ j : Nat, j < 5 → (0 ≤ ((sharesI (colR x) (colG x) (colB x)).getD j (0, 0)).1 ∧ ((sharesI (colR x) (colG x) (colB x)).getD j (0, 0)).1 ≤ 1000) ∧ (0 ≤ ((sharesI (colR x) (colG x) (colB x)).getD j (0, 0)).2 ∧ ((sharesI (colR x) (colG x) (colB x)).getD j (0, 0)).2 ≤ 1000) := by
  intro j hj
  have C := col_ok x
  obtain ⟨s, a, d, H, _⟩ := floats_any (col_bounds x)
  have hlo : 0 ≤ loI (colR x) (colG x) (colB x) := (mm64 (col_bounds x)).1
  obtain ⟨_, _, _, c4, _, c6, c7, c8⟩ := C
  have h6 := H.s6
  have had := H.ad
  have h64 := H.d64
  unfold sharesI
  rw [H.way]
  have N := shares_num h6 had h64 hlo c4 c6 c7 c8
  clear H h6 had h64 hlo c4 c6 c7 c8
  have : j = 0 ∨ j = 1 ∨ j = 2 ∨ j = 3 ∨ j = 4 := by omega
  rcases this with rfl | rfl | rfl | rfl | rfl
  · exact N.1
  · exact N.2.1
  · exact N.2.2.1
  · exact N.2.2.2.1
  · exact N.2.2.2.2
theorem sgnI_b (a b : Int) : -1 ≤ sgnI a b ∧ sgnI a b ≤ 1 := by
  rcases Int.lt_trichotomy a b with h | h | h
  · rw [sgnI_lt h]; decide
  · rw [sgnI_eq h]; decide
  · rw [sgnI_gt h]; decide
theorem plain_b (R G B R' G' B' : Int) : ∀ i : Nat, -1 ≤ (plainI R G B R' G' B').getD i 0 ∧ (plainI R G B R' G' B').getD i 0 ≤ 1 := by
  intro i
  unfold plainI sharesI
  dsimp only [List.zipWith]
  rcases i with _ | _ | _ | _ | _ | i
  · exact sgnI_b _ _
  · exact sgnI_b _ _
  · exact sgnI_b _ _
  · exact sgnI_b _ _
  · exact sgnI_b _ _
  · simp [List.getD]
theorem c_first {w : World} {h₀ : Heap} {L l r : Addr} {s : Shared} {cl cr : Nat} {wv vl : Array Value} {ws : List (Int × Int)} {xl : List Int} {NN news : List (Addr × Obj)} (N : News h₀ L s.heap news) (sub : ∀ q ∈ NN, q ∈ news)
    (hr : (r, W.listOf wv cr) ∈ NN) (hW : WishL wv NN ws) (hl : (l, W.listOf vl cl) ∈ news) (il : IntsAre vl.toList xl) (hxl : xl.length = 5) (hxb : ∀ i : Nat, -1 ≤ xl.getD i 0 ∧ xl.getD i 0 ≤ 1) (hws : ∀ q ∈ ws, (0 ≤ q.1 ∧ q.1 < 5) ∧ (q.2 = 1 ∨ q.2 = -1)) :
    Does w 3 131 [.ref l, .ref r] s (fun v h => ∃ t, v = .int (firstK ws xl) t) :=
  d_first (cr := cr) (News.isList N (sub _ hr)) ⟨hW.1, fun i k d h => let ⟨P, t1, t2, c, e1, e2⟩ := hW.2 i k d h; ⟨P, t1, t2, c, e1, (N _ (sub _ e2)).1⟩⟩ (N _ hl).1 il hxl hxb fun q hq => ⟨(hws q hq).1, by rcases (hws q hq).2 with e | e <;> omega⟩
theorem c_cmp {w : World} {h₀ : Heap} {L J dx Tp l r : Addr} {s : Shared} {nJ nT cl cr : Nat} {hsh : Int} {tt : Tok} {ps vl vr : Array Value} {ws : List (Int × Int)} {xl xr : List Int} {NN news : List (Addr × Obj)} (N : News h₀ L s.heap news) (sub : ∀ q ∈ NN, q ∈ news)
    (hJ : (J, instObj 38 dx) ∈ NN) (hdx : (dx, dictOf [⟨hsh, .str (Str.ofString "comp_select_list") tt, .ref Tp⟩] nJ) ∈ NN) (hTp : (Tp, tupO ps nT) ∈ NN) (hK : KeysL ps.toList NN (keysOf loB hiB wyB ws))
    (hl : (l, W.listOf vl cl) ∈ NN) (hr : (r, W.listOf vr cr) ∈ NN) (il : IntsAre vl.toList xl) (ir : IntsAre vr.toList xr) (hxl : xl.length = 33) (hxr : xr.length = 33) (hws : ∀ q ∈ ws, (0 ≤ q.1 ∧ q.1 < 5) ∧ (q.2 = 1 ∨ q.2 = -1)) :
    Does w 3 35 [.ref J, .ref l, .ref r] s (fun v h => ∃ t, v = .int (cmpK (keysOf loB hiB wyB ws) xl xr) t) :=
  d_cmp (ek := ⟨hsh, .str (Str.ofString "comp_select_list") tt, .ref Tp⟩) (N _ (sub _ hJ)).1 (N _ (sub _ hdx)).1 ⟨_, (N _ (sub _ hTp)).1, rfl, _, rfl⟩ ⟨by have := hK.1; rwa [Array.length_toList] at this, fun i k d h => let ⟨P, t1, t2, c, e1, e2⟩ := hK.2 i k d h; ⟨P, t1, t2, c, by simpa using e1, (N _ (sub _ e2)).1⟩⟩ (N _ (sub _ hl)).1 (N _ (sub _ hr)).1 il ir hxl hxr (keys_in hws)
noncomputable def mOK (Dt J Wi : Addr) (m : Str → Option Value) : Prop := m (Str.ofString "things") = some (.ref Dt) ∧ m (Str.ofString "judge") = some (.ref J) ∧ m (Str.ofString "wishes") = some (.ref Wi)
noncomputable def tailM (Dt J Wi : Addr) (m : Str → Option Value) : Str → Option Value := fun y => if y = Str.ofString "things" then some (.ref Dt) else if y = Str.ofString "judge" then some (.ref J) else if y = Str.ofString "wishes" then some (.ref Wi) else m y
theorem tailM_of {Dt J Wi : Addr} {m : Str → Option Value} (h : mOK Dt J Wi m) : m = tailM Dt J Wi m := by
  funext y
  unfold tailM
  split
  · rename_i e; rw [e]; exact h.1
  · split
    · rename_i e; rw [e]; exact h.2.1
    · split
      · rename_i e; rw [e]; exact h.2.2
      · rfl
theorem news_swap {h₀ h : Heap} {L : Addr} {a b : Addr × Obj} {r : List (Addr × Obj)} (N : News h₀ L h (a :: b :: r)) : News h₀ L h (b :: a :: r) := fun p hp => N p (by
  rcases List.mem_cons.mp hp with rfl | hp
  · exact .tail _ (.head _)
  · rcases List.mem_cons.mp hp with rfl | hp
    · exact .head _
    · exact .tail _ (.tail _ hp))
noncomputable def OutJ (NN : List (Addr × Obj)) (c4 c5 Dt J Wi : Addr) (_ : Nat) (m : Str → Option Value) (news : List (Addr × Obj)) : Prop :=
  mOK Dt J Wi m ∧ ∃ o4 o5 v4 v5, news = (c4, o4) :: (c5, o5) :: NN ∧ o4.data = .cell v4 ∧ o5.data = .cell v5
noncomputable def InJ (NN : List (Addr × Obj)) (c5 Dt J Wi : Addr) (_ : Nat) (m : Str → Option Value) (news : List (Addr × Obj)) : Prop :=
  mOK Dt J Wi m ∧ ∃ o5 v5, news = (c5, o5) :: NN ∧ o5.data = .cell v5
local macro_rules | `(tactic| k_mem) => `(tactic| with_reducible assumption)
theorem item2_0 {prog : Program} {w : World} {A : Around} {E : Value → Shared → Prop} {s : Shared} {h₀ : Heap} {L l : Addr} {news : List (Addr × Obj)} {x0 x1 : Value} {c : Nat} {value slice : PySem.Expr} {u : Tok} {Q : Value → Shared → Prop}
    (N : News h₀ L s.heap news) (hm : (l, W.listOf #[x0, x1] c) ∈ news) (h : Q x0 s)
    (hs : subscripted slice false (.ref l) (.int 0 u) = operate [.ref l, .int 0 u] (getItem (.ref l) (.int 0 u)) := by with_unfolding_all rfl) :
    wpAny (model prog w) A (subscriptTail value slice (.ref l) (.int 0 u)) Q E s := item_led N hm (by decide) (by decide) rfl h hs
theorem item2_1 {prog : Program} {w : World} {A : Around} {E : Value → Shared → Prop} {s : Shared} {h₀ : Heap} {L l : Addr} {news : List (Addr × Obj)} {x0 x1 : Value} {c : Nat} {value slice : PySem.Expr} {u : Tok} {Q : Value → Shared → Prop}
    (N : News h₀ L s.heap news) (hm : (l, W.listOf #[x0, x1] c) ∈ news) (h : Q x1 s)
    (hs : subscripted slice false (.ref l) (.int 1 u) = operate [.ref l, .int 1 u] (getItem (.ref l) (.int 1 u)) := by with_unfolding_all rfl) :
    wpAny (model prog w) A (subscriptTail value slice (.ref l) (.int 1 u)) Q E s := item_led N hm (by decide) (by decide) rfl h hs
theorem item4_0 {prog : Program} {w : World} {A : Around} {E : Value → Shared → Prop} {s : Shared} {h₀ : Heap} {L l : Addr} {news : List (Addr × Obj)} {x0 x1 x2 x3 : Value} {c : Nat} {value slice : PySem.Expr} {u : Tok} {Q : Value → Shared → Prop}
    (N : News h₀ L s.heap news) (hm : (l, W.listOf #[x0, x1, x2, x3] c) ∈ news) (h : Q x0 s)
    (hs : subscripted slice false (.ref l) (.int 0 u) = operate [.ref l, .int 0 u] (getItem (.ref l) (.int 0 u)) := by with_unfolding_all rfl) :
    wpAny (model prog w) A (subscriptTail value slice (.ref l) (.int 0 u)) Q E s := item_led N hm (by decide) (by decide) rfl h hs
theorem item4_1 {prog : Program} {w : World} {A : Around} {E : Value → Shared → Prop} {s : Shared} {h₀ : Heap} {L l : Addr} {news : List (Addr × Obj)} {x0 x1 x2 x3 : Value} {c : Nat} {value slice : PySem.Expr} {u : Tok} {Q : Value → Shared → Prop}
    (N : News h₀ L s.heap news) (hm : (l, W.listOf #[x0, x1, x2, x3] c) ∈ news) (h : Q x1 s)
    (hs : subscripted slice false (.ref l) (.int 1 u) = operate [.ref l, .int 1 u] (getItem (.ref l) (.int 1 u)) := by with_unfolding_all rfl) :
    wpAny (model prog w) A (subscriptTail value slice (.ref l) (.int 1 u)) Q E s := item_led N hm (by decide) (by decide) rfl h hs
theorem item4_2 {prog : Program} {w : World} {A : Around} {E : Value → Shared → Prop} {s : Shared} {h₀ : Heap} {L l : Addr} {news : List (Addr × Obj)} {x0 x1 x2 x3 : Value} {c : Nat} {value slice : PySem.Expr} {u : Tok} {Q : Value → Shared → Prop}
    (N : News h₀ L s.heap news) (hm : (l, W.listOf #[x0, x1, x2, x3] c) ∈ news) (h : Q x2 s)
    (hs : subscripted slice false (.ref l) (.int 2 u) = operate [.ref l, .int 2 u] (getItem (.ref l) (.int 2 u)) := by with_unfolding_all rfl) :
    wpAny (model prog w) A (subscriptTail value slice (.ref l) (.int 2 u)) Q E s := item_led N hm (by decide) (by decide) rfl h hs
theorem item4_3 {prog : Program} {w : World} {A : Around} {E : Value → Shared → Prop} {s : Shared} {h₀ : Heap} {L l : Addr} {news : List (Addr × Obj)} {x0 x1 x2 x3 : Value} {c : Nat} {value slice : PySem.Expr} {u : Tok} {Q : Value → Shared → Prop}
    (N : News h₀ L s.heap news) (hm : (l, W.listOf #[x0, x1, x2, x3] c) ∈ news) (h : Q x3 s)
    (hs : subscripted slice false (.ref l) (.int 3 u) = operate [.ref l, .int 3 u] (getItem (.ref l) (.int 3 u)) := by with_unfolding_all rfl) :
    wpAny (model prog w) A (subscriptTail value slice (.ref l) (.int 3 u)) Q E s := item_led N hm (by decide) (by decide) rfl h hs
theorem law_for {w : World} {A₀ : Around} {h₀ base : Heap} {mg mb : Str → Option Value} {p : Program} {loose : List Str} {mean : ExcName → Option Value} {dp un : Nat} {gd : Option (List Code)} {L fa : Addr} {cd : Value} {outer : List Env} {s : Shared} {Q : Flow → Shared → Prop} {E : Value → Shared → Prop}
    {c1 c2 c3 c4 c5 J dx Tp Kk Wi Dt : Addr} {m : Str → Option Value} {NN : List (Addr × Obj)} {o4 o5 : Obj} {v4 v5 : Option Value} {ys : List Value} {zs : List Int} {nD nJ nT nW : Nat} {hsh : Int} {tt : Tok} {ps wv : Array Value} {ws : List (Int × Int)}
    (B : Below A₀ base outer h₀) (X : (hd.heap_1 w.params).In h₀) (T : Top p loose mean mg mb h₀) (hd : dp + 90 < recursionLimit) (hu : un + 8 * 90 < cLine)
    (F : Fr h₀ L s.heap m) (hm : mOK Dt J Wi m) (N : News h₀ L s.heap ((c4, o4) :: (c5, o5) :: NN)) (h4 : o4.data = .cell v4) (h5 : o5.data = .cell v5)
    (f4 : ∀ q ∈ NN, q.1 ≠ c4) (f5 : ∀ q ∈ NN, q.1 ≠ c5) (f45 : c4 ≠ c5)
    (hDt : (Dt, W.listOf ys.toArray nD) ∈ NN) (hT : ThingsAre NN ys zs)
    (hJ : (J, instObj 38 dx) ∈ NN) (hdx : (dx, dictOf [⟨hsh, .str (Str.ofString "comp_select_list") tt, .ref Tp⟩] nJ) ∈ NN) (hTp : (Tp, tupO ps nT) ∈ NN) (hK : KeysL ps.toList NN (keysOf loB hiB wyB ws))
    (hWi : (Wi, W.listOf wv nW) ∈ NN) (hW : WishL wv NN ws) (hws : ∀ q ∈ ws, (0 ≤ q.1 ∧ q.1 < 5) ∧ (q.2 = 1 ∨ q.2 = -1))
    (hE : PassesOwn (model PR w) (ktrTop dp un gd lawD.name lawD.scope L fa cd [(Str.ofString "two", c5), (Str.ofString "one", c4), (Str.ofString "ways", c3), (Str.ofString "bounds", c2), (Str.ofString "total", c1)] outer) (envX lawD.name lawD.scope L fa cd [(Str.ofString "two", c5), (Str.ofString "one", c4), (Str.ofString "ways", c3), (Str.ofString "bounds", c2), (Str.ofString "total", c1)]) E)
    (hQ : ∀ h' tk' m', Fr h₀ L h' m' → News h₀ L h' NN → Q (.ret (.bool true)) { s with heap := h', toks := tk' }) :
    wpAny (model PR w) (ktrTop dp un gd lawD.name lawD.scope L fa cd [(Str.ofString "two", c5), (Str.ofString "one", c4), (Str.ofString "ways", c3), (Str.ofString "bounds", c2), (Str.ofString "total", c1)] outer) (execs (lawD.body.drop 7) (envX lawD.name lawD.scope L fa cd [(Str.ofString "two", c5), (Str.ofString "one", c4), (Str.ofString "ways", c3), (Str.ofString "bounds", c2), (Str.ofString "total", c1)])) Q E s := by
  rw [tailM_of hm] at F
  unfold tailM at F
  dsimp only [lawD, lawOf, List.drop] at hE ⊢
  iterate 3 (first | (first | ((with_reducible show wpAny _ _ (compareOp CmpOp.NotEq (Value.int _ _) (Value.int _ _)) _ _ _); k_dflt (refine' ne_ints ?h ?_; (case h => assumption))) | ((with_reducible show wpAny _ _ (compareOp CmpOp.NotEq (Value.ref _) (Value.ref _)) _ _ _); k_dflt (refine' ne_lists ?N9 ?q1 ?q2 ?q3 ?q4 ?q5 ?ku ?_; (case N9 => k_asm); (case q1 => k_mem); (case q2 => k_mem); (case q3 => assumption); (case q4 => assumption); (case q5 => rfl); (case ku => units_room))) | ((with_reducible show wpAny _ _ (compareOp CmpOp.NotEq (Value.float _ _) (Value.float _ _)) _ _ _); k_dflt (refine' ne_flt ?h ?_; (case h => assumption))) | ((with_reducible show wpAny _ _ (exec (Stmt.For _ _ _ _ _) _) _ _ _); k_dflt (refine wpAny_For ?_)) | ((with_reducible show wpAny _ _ (call (Value.ref 35) _) _ _ _); k_dflt (refine' use0 (c_cmp ?N9 ?sub ?q1 ?q2 ?q3 ?q4 ?q5 ?q6 ?q7 ?q8 ?q9 ?q10 ?q11) ?k1 ?k2 ?k3 ?k4 ?kK ?k5 ?kd ?ku ?_; (case N9 => k_asm); (case sub => assumption); (case q1 => assumption); (case q2 => assumption); (case q3 => assumption); (case q4 => assumption); (case q5 => assumption); (case q6 => assumption); (case q7 => assumption); (case q8 => assumption); (case q9 => assumption); (case q10 => assumption); (case q11 => assumption); (case k1 => k_asm); (case k2 => k_asm); (case k3 => k_asm); (case k4 => k_asm); (case kK => rfl); (case k5 => k_asm); (case kd => ktr_room); (case ku => ktr_units); k_whole); intro v9_z h9_z tk9_z F9_z N9_z hP9_z; obtain ⟨t9_z, e9_z⟩ := hP9_z; subst e9_z; (try k_sweep)) | ((with_reducible show wpAny _ _ (call (Value.ref 131) _) _ _ _); k_dflt (refine' use0 (c_first ?N9 ?sub ?q1 ?q2 ?q3 ?q4 ?q5 ?q6 ?q7) ?k1 ?k2 ?k3 ?k4 ?kK ?k5 ?kd ?ku ?_; (case N9 => k_asm); (case sub => assumption); (case q1 => assumption); (case q2 => assumption); (case q3 => k_mem); (case q4 => assumption); (case q5 => assumption); (case q6 => assumption); (case q7 => assumption); (case k1 => k_asm); (case k2 => k_asm); (case k3 => k_asm); (case k4 => k_asm); (case kK => rfl); (case k5 => k_asm); (case kd => ktr_room); (case ku => ktr_units); k_whole); intro v9_z h9_z tk9_z F9_z N9_z hP9_z; obtain ⟨t9_z, e9_z⟩ := hP9_z; subst e9_z; (try k_sweep)) | ((with_reducible show wpAny _ _ (call (Value.ref 124) [Value.float _ _, Value.float _ _]) _ _ _); k_dflt (refine' use0 d_signF ?k1 ?k2 ?k3 ?k4 ?kK ?k5 ?kd ?ku ?_; (case k1 => k_asm); (case k2 => k_asm); (case k3 => k_asm); (case k4 => k_asm); (case kK => rfl); (case k5 => k_asm); (case kd => ktr_room); (case ku => ktr_units); k_whole); intro v9_z h9_z tk9_z F9_z N9_z hP9_z; obtain ⟨t9_z, e9_z⟩ := hP9_z; subst e9_z; (try k_sweep)) | ((with_reducible show wpAny _ _ (call (Value.ref 124) [Value.int _ _, Value.int _ _]) _ _ _); k_dflt (refine' use0 d_sign ?k1 ?k2 ?k3 ?k4 ?kK ?k5 ?kd ?ku ?_; (case k1 => k_asm); (case k2 => k_asm); (case k3 => k_asm); (case k4 => k_asm); (case kK => rfl); (case k5 => k_asm); (case kd => ktr_room); (case ku => ktr_units); k_whole); intro v9_z h9_z tk9_z F9_z N9_z hP9_z; obtain ⟨t9_z, e9_z⟩ := hP9_z; subst e9_z; (try k_sweep)) | ((with_reducible show wpAny _ _ (subscriptTail _ _ (Value.ref _) (Value.int 3 _)) _ _ _); k_dflt (refine' item4_3 ?k1 ?k2 ?_ ?k6; (case k1 => k_asm); (case k2 => with_reducible assumption); (case k6 => with_unfolding_all rfl); k_whole)) | ((with_reducible show wpAny _ _ (subscriptTail _ _ (Value.ref _) (Value.int 2 _)) _ _ _); k_dflt (refine' item4_2 ?k1 ?k2 ?_ ?k6; (case k1 => k_asm); (case k2 => with_reducible assumption); (case k6 => with_unfolding_all rfl); k_whole)) | ((with_reducible show wpAny _ _ (subscriptTail _ _ (Value.ref _) (Value.int 1 _)) _ _ _); k_dflt (refine' item4_1 ?k1 ?k2 ?_ ?k6; (case k1 => k_asm); (case k2 => with_reducible assumption); (case k6 => with_unfolding_all rfl); k_whole)) | ((with_reducible show wpAny _ _ (subscriptTail _ _ (Value.ref _) (Value.int 0 _)) _ _ _); k_dflt (refine' item4_0 ?k1 ?k2 ?_ ?k6; (case k1 => k_asm); (case k2 => with_reducible assumption); (case k6 => with_unfolding_all rfl); k_whole)) | ((with_reducible show wpAny _ _ (subscriptTail _ _ (Value.ref _) (Value.int 1 _)) _ _ _); k_dflt (refine' item2_1 ?k1 ?k2 ?_ ?k6; (case k1 => k_asm); (case k2 => with_reducible assumption); (case k6 => with_unfolding_all rfl); k_whole)) | ((with_reducible show wpAny _ _ (subscriptTail _ _ (Value.ref _) (Value.int 0 _)) _ _ _); k_dflt (refine' item2_0 ?k1 ?k2 ?_ ?k6; (case k1 => k_asm); (case k2 => with_reducible assumption); (case k6 => with_unfolding_all rfl); k_whole)) | ((with_reducible show wpAny _ _ (subscriptTail _ _ (Value.ref _) (Value.int _ _)) _ _ _); k_dflt (refine' item_led ?k1 ?k2 ?k3 ?k4 ?k5 ?_ ?k6; (case k1 => k_asm); (case k2 => with_reducible assumption); (case k3 => omega); (case k4 => omega); (case k5 => assumption); (case k6 => with_unfolding_all rfl); k_whole)) | walk1) | (dsimp only; (first | ((with_reducible show wpAny _ _ (compareOp CmpOp.NotEq (Value.int _ _) (Value.int _ _)) _ _ _); k_dflt (refine' ne_ints ?h ?_; (case h => assumption))) | ((with_reducible show wpAny _ _ (compareOp CmpOp.NotEq (Value.ref _) (Value.ref _)) _ _ _); k_dflt (refine' ne_lists ?N9 ?q1 ?q2 ?q3 ?q4 ?q5 ?ku ?_; (case N9 => k_asm); (case q1 => k_mem); (case q2 => k_mem); (case q3 => assumption); (case q4 => assumption); (case q5 => rfl); (case ku => units_room))) | ((with_reducible show wpAny _ _ (compareOp CmpOp.NotEq (Value.float _ _) (Value.float _ _)) _ _ _); k_dflt (refine' ne_flt ?h ?_; (case h => assumption))) | ((with_reducible show wpAny _ _ (exec (Stmt.For _ _ _ _ _) _) _ _ _); k_dflt (refine wpAny_For ?_)) | ((with_reducible show wpAny _ _ (call (Value.ref 35) _) _ _ _); k_dflt (refine' use0 (c_cmp ?N9 ?sub ?q1 ?q2 ?q3 ?q4 ?q5 ?q6 ?q7 ?q8 ?q9 ?q10 ?q11) ?k1 ?k2 ?k3 ?k4 ?kK ?k5 ?kd ?ku ?_; (case N9 => k_asm); (case sub => assumption); (case q1 => assumption); (case q2 => assumption); (case q3 => assumption); (case q4 => assumption); (case q5 => assumption); (case q6 => assumption); (case q7 => assumption); (case q8 => assumption); (case q9 => assumption); (case q10 => assumption); (case q11 => assumption); (case k1 => k_asm); (case k2 => k_asm); (case k3 => k_asm); (case k4 => k_asm); (case kK => rfl); (case k5 => k_asm); (case kd => ktr_room); (case ku => ktr_units); k_whole); intro v9_z h9_z tk9_z F9_z N9_z hP9_z; obtain ⟨t9_z, e9_z⟩ := hP9_z; subst e9_z; (try k_sweep)) | ((with_reducible show wpAny _ _ (call (Value.ref 131) _) _ _ _); k_dflt (refine' use0 (c_first ?N9 ?sub ?q1 ?q2 ?q3 ?q4 ?q5 ?q6 ?q7) ?k1 ?k2 ?k3 ?k4 ?kK ?k5 ?kd ?ku ?_; (case N9 => k_asm); (case sub => assumption); (case q1 => assumption); (case q2 => assumption); (case q3 => k_mem); (case q4 => assumption); (case q5 => assumption); (case q6 => assumption); (case q7 => assumption); (case k1 => k_asm); (case k2 => k_asm); (case k3 => k_asm); (case k4 => k_asm); (case kK => rfl); (case k5 => k_asm); (case kd => ktr_room); (case ku => ktr_units); k_whole); intro v9_z h9_z tk9_z F9_z N9_z hP9_z; obtain ⟨t9_z, e9_z⟩ := hP9_z; subst e9_z; (try k_sweep)) | ((with_reducible show wpAny _ _ (call (Value.ref 124) [Value.float _ _, Value.float _ _]) _ _ _); k_dflt (refine' use0 d_signF ?k1 ?k2 ?k3 ?k4 ?kK ?k5 ?kd ?ku ?_; (case k1 => k_asm); (case k2 => k_asm); (case k3 => k_asm); (case k4 => k_asm); (case kK => rfl); (case k5 => k_asm); (case kd => ktr_room); (case ku => ktr_units); k_whole); intro v9_z h9_z tk9_z F9_z N9_z hP9_z; obtain ⟨t9_z, e9_z⟩ := hP9_z; subst e9_z; (try k_sweep)) | ((with_reducible show wpAny _ _ (call (Value.ref 124) [Value.int _ _, Value.int _ _]) _ _ _); k_dflt (refine' use0 d_sign ?k1 ?k2 ?k3 ?k4 ?kK ?k5 ?kd ?ku ?_; (case k1 => k_asm); (case k2 => k_asm); (case k3 => k_asm); (case k4 => k_asm); (case kK => rfl); (case k5 => k_asm); (case kd => ktr_room); (case ku => ktr_units); k_whole); intro v9_z h9_z tk9_z F9_z N9_z hP9_z; obtain ⟨t9_z, e9_z⟩ := hP9_z; subst e9_z; (try k_sweep)) | ((with_reducible show wpAny _ _ (subscriptTail _ _ (Value.ref _) (Value.int 3 _)) _ _ _); k_dflt (refine' item4_3 ?k1 ?k2 ?_ ?k6; (case k1 => k_asm); (case k2 => with_reducible assumption); (case k6 => with_unfolding_all rfl); k_whole)) | ((with_reducible show wpAny _ _ (subscriptTail _ _ (Value.ref _) (Value.int 2 _)) _ _ _); k_dflt (refine' item4_2 ?k1 ?k2 ?_ ?k6; (case k1 => k_asm); (case k2 => with_reducible assumption); (case k6 => with_unfolding_all rfl); k_whole)) | ((with_reducible show wpAny _ _ (subscriptTail _ _ (Value.ref _) (Value.int 1 _)) _ _ _); k_dflt (refine' item4_1 ?k1 ?k2 ?_ ?k6; (case k1 => k_asm); (case k2 => with_reducible assumption); (case k6 => with_unfolding_all rfl); k_whole)) | ((with_reducible show wpAny _ _ (subscriptTail _ _ (Value.ref _) (Value.int 0 _)) _ _ _); k_dflt (refine' item4_0 ?k1 ?k2 ?_ ?k6; (case k1 => k_asm); (case k2 => with_reducible assumption); (case k6 => with_unfolding_all rfl); k_whole)) | ((with_reducible show wpAny _ _ (subscriptTail _ _ (Value.ref _) (Value.int 1 _)) _ _ _); k_dflt (refine' item2_1 ?k1 ?k2 ?_ ?k6; (case k1 => k_asm); (case k2 => with_reducible assumption); (case k6 => with_unfolding_all rfl); k_whole)) | ((with_reducible show wpAny _ _ (subscriptTail _ _ (Value.ref _) (Value.int 0 _)) _ _ _); k_dflt (refine' item2_0 ?k1 ?k2 ?_ ?k6; (case k1 => k_asm); (case k2 => with_reducible assumption); (case k6 => with_unfolding_all rfl); k_whole)) | ((with_reducible show wpAny _ _ (subscriptTail _ _ (Value.ref _) (Value.int _ _)) _ _ _); k_dflt (refine' item_led ?k1 ?k2 ?k3 ?k4 ?k5 ?_ ?k6; (case k1 => k_asm); (case k2 => with_reducible assumption); (case k3 => omega); (case k4 => omega); (case k5 => assumption); (case k6 => with_unfolding_all rfl); k_whole)) | walk1)) | (k_unfold; (try dsimp only)))
  refine for_led (OutJ NN c4 c5 Dt J Wi) rfl (fun i m news h => by obtain ⟨_, _, _, _, _, rfl, _⟩ := h; exact .tail _ (.tail _ hDt)) F N ⟨⟨rfl, rfl, rfl⟩, o4, o5, v4, v5, rfl, h4, h5⟩ ?turn ?fin hE
  case turn =>
    clear F N h4 h5 hm hQ
    rintro i v m2 news it I h9 tk9 hv ⟨hm2, o4, o5, v4, v5, rfl, h4, h5⟩ F N hofI
    obtain ⟨z, hz⟩ : ∃ z, zs[i]? = some z := by
      have : i < ys.length := by
        have := (Array.getElem?_eq_some_iff.mp hv).1
        simpa using this
      exact ⟨_, List.getElem?_eq_getElem (hT.1 ▸ this)⟩
    obtain ⟨Di, e1, hTi⟩ := hT.2 i z hz
    have e2 : ys[i]? = some v := by simpa using hv
    rw [e1] at e2
    cases e2
    rw [tailM_of hm2] at F
    unfold tailM at F
    (first | ((with_reducible show wpAny _ _ (compareOp CmpOp.NotEq (Value.int _ _) (Value.int _ _)) _ _ _); k_dflt (refine' ne_ints ?h ?_; (case h => assumption))) | ((with_reducible show wpAny _ _ (compareOp CmpOp.NotEq (Value.ref _) (Value.ref _)) _ _ _); k_dflt (refine' ne_lists ?N9 ?q1 ?q2 ?q3 ?q4 ?q5 ?ku ?_; (case N9 => k_asm); (case q1 => k_mem); (case q2 => k_mem); (case q3 => assumption); (case q4 => assumption); (case q5 => rfl); (case ku => units_room))) | ((with_reducible show wpAny _ _ (compareOp CmpOp.NotEq (Value.float _ _) (Value.float _ _)) _ _ _); k_dflt (refine' ne_flt ?h ?_; (case h => assumption))) | ((with_reducible show wpAny _ _ (exec (Stmt.For _ _ _ _ _) _) _ _ _); k_dflt (refine wpAny_For ?_)) | ((with_reducible show wpAny _ _ (call (Value.ref 35) _) _ _ _); k_dflt (refine' use0 (c_cmp ?N9 ?sub ?q1 ?q2 ?q3 ?q4 ?q5 ?q6 ?q7 ?q8 ?q9 ?q10 ?q11) ?k1 ?k2 ?k3 ?k4 ?kK ?k5 ?kd ?ku ?_; (case N9 => k_asm); (case sub => assumption); (case q1 => assumption); (case q2 => assumption); (case q3 => assumption); (case q4 => assumption); (case q5 => assumption); (case q6 => assumption); (case q7 => assumption); (case q8 => assumption); (case q9 => assumption); (case q10 => assumption); (case q11 => assumption); (case k1 => k_asm); (case k2 => k_asm); (case k3 => k_asm); (case k4 => k_asm); (case kK => rfl); (case k5 => k_asm); (case kd => ktr_room); (case ku => ktr_units); k_whole); intro v9_z h9_z tk9_z F9_z N9_z hP9_z; obtain ⟨t9_z, e9_z⟩ := hP9_z; subst e9_z; (try k_sweep)) | ((with_reducible show wpAny _ _ (call (Value.ref 131) _) _ _ _); k_dflt (refine' use0 (c_first ?N9 ?sub ?q1 ?q2 ?q3 ?q4 ?q5 ?q6 ?q7) ?k1 ?k2 ?k3 ?k4 ?kK ?k5 ?kd ?ku ?_; (case N9 => k_asm); (case sub => assumption); (case q1 => assumption); (case q2 => assumption); (case q3 => k_mem); (case q4 => assumption); (case q5 => assumption); (case q6 => assumption); (case q7 => assumption); (case k1 => k_asm); (case k2 => k_asm); (case k3 => k_asm); (case k4 => k_asm); (case kK => rfl); (case k5 => k_asm); (case kd => ktr_room); (case ku => ktr_units); k_whole); intro v9_z h9_z tk9_z F9_z N9_z hP9_z; obtain ⟨t9_z, e9_z⟩ := hP9_z; subst e9_z; (try k_sweep)) | ((with_reducible show wpAny _ _ (call (Value.ref 124) [Value.float _ _, Value.float _ _]) _ _ _); k_dflt (refine' use0 d_signF ?k1 ?k2 ?k3 ?k4 ?kK ?k5 ?kd ?ku ?_; (case k1 => k_asm); (case k2 => k_asm); (case k3 => k_asm); (case k4 => k_asm); (case kK => rfl); (case k5 => k_asm); (case kd => ktr_room); (case ku => ktr_units); k_whole); intro v9_z h9_z tk9_z F9_z N9_z hP9_z; obtain ⟨t9_z, e9_z⟩ := hP9_z; subst e9_z; (try k_sweep)) | ((with_reducible show wpAny _ _ (call (Value.ref 124) [Value.int _ _, Value.int _ _]) _ _ _); k_dflt (refine' use0 d_sign ?k1 ?k2 ?k3 ?k4 ?kK ?k5 ?kd ?ku ?_; (case k1 => k_asm); (case k2 => k_asm); (case k3 => k_asm); (case k4 => k_asm); (case kK => rfl); (case k5 => k_asm); (case kd => ktr_room); (case ku => ktr_units); k_whole); intro v9_z h9_z tk9_z F9_z N9_z hP9_z; obtain ⟨t9_z, e9_z⟩ := hP9_z; subst e9_z; (try k_sweep)) | ((with_reducible show wpAny _ _ (subscriptTail _ _ (Value.ref _) (Value.int 3 _)) _ _ _); k_dflt (refine' item4_3 ?k1 ?k2 ?_ ?k6; (case k1 => k_asm); (case k2 => with_reducible assumption); (case k6 => with_unfolding_all rfl); k_whole)) | ((with_reducible show wpAny _ _ (subscriptTail _ _ (Value.ref _) (Value.int 2 _)) _ _ _); k_dflt (refine' item4_2 ?k1 ?k2 ?_ ?k6; (case k1 => k_asm); (case k2 => with_reducible assumption); (case k6 => with_unfolding_all rfl); k_whole)) | ((with_reducible show wpAny _ _ (subscriptTail _ _ (Value.ref _) (Value.int 1 _)) _ _ _); k_dflt (refine' item4_1 ?k1 ?k2 ?_ ?k6; (case k1 => k_asm); (case k2 => with_reducible assumption); (case k6 => with_unfolding_all rfl); k_whole)) | ((with_reducible show wpAny _ _ (subscriptTail _ _ (Value.ref _) (Value.int 0 _)) _ _ _); k_dflt (refine' item4_0 ?k1 ?k2 ?_ ?k6; (case k1 => k_asm); (case k2 => with_reducible assumption); (case k6 => with_unfolding_all rfl); k_whole)) | ((with_reducible show wpAny _ _ (subscriptTail _ _ (Value.ref _) (Value.int 1 _)) _ _ _); k_dflt (refine' item2_1 ?k1 ?k2 ?_ ?k6; (case k1 => k_asm); (case k2 => with_reducible assumption); (case k6 => with_unfolding_all rfl); k_whole)) | ((with_reducible show wpAny _ _ (subscriptTail _ _ (Value.ref _) (Value.int 0 _)) _ _ _); k_dflt (refine' item2_0 ?k1 ?k2 ?_ ?k6; (case k1 => k_asm); (case k2 => with_reducible assumption); (case k6 => with_unfolding_all rfl); k_whole)) | ((with_reducible show wpAny _ _ (subscriptTail _ _ (Value.ref _) (Value.int _ _)) _ _ _); k_dflt (refine' item_led ?k1 ?k2 ?k3 ?k4 ?k5 ?_ ?k6; (case k1 => k_asm); (case k2 => with_reducible assumption); (case k3 => omega); (case k4 => omega); (case k5 => assumption); (case k6 => with_unfolding_all rfl); k_whole)) | walk1)
    refine storeX_C F (news_swap N) rfl (.head ?_) h4 ?_
    · intro q hq
      rcases List.mem_cons.mp hq with rfl | hq
      · exact Ne.symm (hofI _ (.head _))
      · rcases List.mem_cons.mp hq with rfl | hq
        · exact Ne.symm f45
        · exact f4 q hq
    intro h' o4' F9 N9 h4'
    clear F N hm2 h4
    obtain ⟨Rw, Sh, Fl, th, ch, cr, cS, cF, vr, vS, vF, a1, a2, a3, a4, a5, a6, a7⟩ := hTi.sel
    have hl := hue_law z
    obtain ⟨tz, hf0⟩ := a7 0 (by decide)
    have hf0' : vF[(0 : Int).toNat]? = some (.float (hsvF (f64 (colR z)) (f64 (colG z)) (f64 (colB z))).1 tz) := hf0
    have hcmp : (Float64.cmp (hlsF (f64 (colR z)) (f64 (colG z)) (f64 (colB z))).1 (hsvF (f64 (colR z)) (f64 (colG z)) (f64 (colB z))).1 == some .eq) = true := by rw [hl.1]; exact hl.2
    clear hl hf0
    obtain ⟨news9, hn9, N10, z4, z1, z5, zD⟩ : ∃ news9, (∀ q ∈ (c4, o4') :: (I, it) :: (c5, o5) :: NN, q ∈ news9) ∧ News h₀ L h' news9 ∧ (c4, o4') ∈ news9 ∧ (Di, W.listOf #[.ref Rw, .ref Sh, .ref Fl, .float (hlsF (f64 (colR z)) (f64 (colG z)) (f64 (colB z))).1 th] ch) ∈ news9 ∧ (Fl, W.listOf vF cF) ∈ news9 ∧ (Dt, W.listOf ys.toArray nD) ∈ news9 :=
      ⟨_, fun q hq => hq, N9, by simp, by simp [a1], by simp [a5], by simp [hDt]⟩
    clear N9
    iterate 22 (first | (first | ((with_reducible show wpAny _ _ (compareOp CmpOp.NotEq (Value.int _ _) (Value.int _ _)) _ _ _); k_dflt (refine' ne_ints ?h ?_; (case h => assumption))) | ((with_reducible show wpAny _ _ (compareOp CmpOp.NotEq (Value.ref _) (Value.ref _)) _ _ _); k_dflt (refine' ne_lists ?N9 ?q1 ?q2 ?q3 ?q4 ?q5 ?ku ?_; (case N9 => k_asm); (case q1 => k_mem); (case q2 => k_mem); (case q3 => assumption); (case q4 => assumption); (case q5 => rfl); (case ku => units_room))) | ((with_reducible show wpAny _ _ (compareOp CmpOp.NotEq (Value.float _ _) (Value.float _ _)) _ _ _); k_dflt (refine' ne_flt ?h ?_; (case h => assumption))) | ((with_reducible show wpAny _ _ (exec (Stmt.For _ _ _ _ _) _) _ _ _); k_dflt (refine wpAny_For ?_)) | ((with_reducible show wpAny _ _ (call (Value.ref 35) _) _ _ _); k_dflt (refine' use0 (c_cmp ?N9 ?sub ?q1 ?q2 ?q3 ?q4 ?q5 ?q6 ?q7 ?q8 ?q9 ?q10 ?q11) ?k1 ?k2 ?k3 ?k4 ?kK ?k5 ?kd ?ku ?_; (case N9 => k_asm); (case sub => assumption); (case q1 => assumption); (case q2 => assumption); (case q3 => assumption); (case q4 => assumption); (case q5 => assumption); (case q6 => assumption); (case q7 => assumption); (case q8 => assumption); (case q9 => assumption); (case q10 => assumption); (case q11 => assumption); (case k1 => k_asm); (case k2 => k_asm); (case k3 => k_asm); (case k4 => k_asm); (case kK => rfl); (case k5 => k_asm); (case kd => ktr_room); (case ku => ktr_units); k_whole); intro v9_z h9_z tk9_z F9_z N9_z hP9_z; obtain ⟨t9_z, e9_z⟩ := hP9_z; subst e9_z; (try k_sweep)) | ((with_reducible show wpAny _ _ (call (Value.ref 131) _) _ _ _); k_dflt (refine' use0 (c_first ?N9 ?sub ?q1 ?q2 ?q3 ?q4 ?q5 ?q6 ?q7) ?k1 ?k2 ?k3 ?k4 ?kK ?k5 ?kd ?ku ?_; (case N9 => k_asm); (case sub => assumption); (case q1 => assumption); (case q2 => assumption); (case q3 => k_mem); (case q4 => assumption); (case q5 => assumption); (case q6 => assumption); (case q7 => assumption); (case k1 => k_asm); (case k2 => k_asm); (case k3 => k_asm); (case k4 => k_asm); (case kK => rfl); (case k5 => k_asm); (case kd => ktr_room); (case ku => ktr_units); k_whole); intro v9_z h9_z tk9_z F9_z N9_z hP9_z; obtain ⟨t9_z, e9_z⟩ := hP9_z; subst e9_z; (try k_sweep)) | ((with_reducible show wpAny _ _ (call (Value.ref 124) [Value.float _ _, Value.float _ _]) _ _ _); k_dflt (refine' use0 d_signF ?k1 ?k2 ?k3 ?k4 ?kK ?k5 ?kd ?ku ?_; (case k1 => k_asm); (case k2 => k_asm); (case k3 => k_asm); (case k4 => k_asm); (case kK => rfl); (case k5 => k_asm); (case kd => ktr_room); (case ku => ktr_units); k_whole); intro v9_z h9_z tk9_z F9_z N9_z hP9_z; obtain ⟨t9_z, e9_z⟩ := hP9_z; subst e9_z; (try k_sweep)) | ((with_reducible show wpAny _ _ (call (Value.ref 124) [Value.int _ _, Value.int _ _]) _ _ _); k_dflt (refine' use0 d_sign ?k1 ?k2 ?k3 ?k4 ?kK ?k5 ?kd ?ku ?_; (case k1 => k_asm); (case k2 => k_asm); (case k3 => k_asm); (case k4 => k_asm); (case kK => rfl); (case k5 => k_asm); (case kd => ktr_room); (case ku => ktr_units); k_whole); intro v9_z h9_z tk9_z F9_z N9_z hP9_z; obtain ⟨t9_z, e9_z⟩ := hP9_z; subst e9_z; (try k_sweep)) | ((with_reducible show wpAny _ _ (subscriptTail _ _ (Value.ref _) (Value.int 3 _)) _ _ _); k_dflt (refine' item4_3 ?k1 ?k2 ?_ ?k6; (case k1 => k_asm); (case k2 => with_reducible assumption); (case k6 => with_unfolding_all rfl); k_whole)) | ((with_reducible show wpAny _ _ (subscriptTail _ _ (Value.ref _) (Value.int 2 _)) _ _ _); k_dflt (refine' item4_2 ?k1 ?k2 ?_ ?k6; (case k1 => k_asm); (case k2 => with_reducible assumption); (case k6 => with_unfolding_all rfl); k_whole)) | ((with_reducible show wpAny _ _ (subscriptTail _ _ (Value.ref _) (Value.int 1 _)) _ _ _); k_dflt (refine' item4_1 ?k1 ?k2 ?_ ?k6; (case k1 => k_asm); (case k2 => with_reducible assumption); (case k6 => with_unfolding_all rfl); k_whole)) | ((with_reducible show wpAny _ _ (subscriptTail _ _ (Value.ref _) (Value.int 0 _)) _ _ _); k_dflt (refine' item4_0 ?k1 ?k2 ?_ ?k6; (case k1 => k_asm); (case k2 => with_reducible assumption); (case k6 => with_unfolding_all rfl); k_whole)) | ((with_reducible show wpAny _ _ (subscriptTail _ _ (Value.ref _) (Value.int 1 _)) _ _ _); k_dflt (refine' item2_1 ?k1 ?k2 ?_ ?k6; (case k1 => k_asm); (case k2 => with_reducible assumption); (case k6 => with_unfolding_all rfl); k_whole)) | ((with_reducible show wpAny _ _ (subscriptTail _ _ (Value.ref _) (Value.int 0 _)) _ _ _); k_dflt (refine' item2_0 ?k1 ?k2 ?_ ?k6; (case k1 => k_asm); (case k2 => with_reducible assumption); (case k6 => with_unfolding_all rfl); k_whole)) | ((with_reducible show wpAny _ _ (subscriptTail _ _ (Value.ref _) (Value.int _ _)) _ _ _); k_dflt (refine' item_led ?k1 ?k2 ?k3 ?k4 ?k5 ?_ ?k6; (case k1 => k_asm); (case k2 => with_reducible assumption); (case k3 => omega); (case k4 => omega); (case k5 => assumption); (case k6 => with_unfolding_all rfl); k_whole)) | walk1) | (dsimp only; (first | ((with_reducible show wpAny _ _ (compareOp CmpOp.NotEq (Value.int _ _) (Value.int _ _)) _ _ _); k_dflt (refine' ne_ints ?h ?_; (case h => assumption))) | ((with_reducible show wpAny _ _ (compareOp CmpOp.NotEq (Value.ref _) (Value.ref _)) _ _ _); k_dflt (refine' ne_lists ?N9 ?q1 ?q2 ?q3 ?q4 ?q5 ?ku ?_; (case N9 => k_asm); (case q1 => k_mem); (case q2 => k_mem); (case q3 => assumption); (case q4 => assumption); (case q5 => rfl); (case ku => units_room))) | ((with_reducible show wpAny _ _ (compareOp CmpOp.NotEq (Value.float _ _) (Value.float _ _)) _ _ _); k_dflt (refine' ne_flt ?h ?_; (case h => assumption))) | ((with_reducible show wpAny _ _ (exec (Stmt.For _ _ _ _ _) _) _ _ _); k_dflt (refine wpAny_For ?_)) | ((with_reducible show wpAny _ _ (call (Value.ref 35) _) _ _ _); k_dflt (refine' use0 (c_cmp ?N9 ?sub ?q1 ?q2 ?q3 ?q4 ?q5 ?q6 ?q7 ?q8 ?q9 ?q10 ?q11) ?k1 ?k2 ?k3 ?k4 ?kK ?k5 ?kd ?ku ?_; (case N9 => k_asm); (case sub => assumption); (case q1 => assumption); (case q2 => assumption); (case q3 => assumption); (case q4 => assumption); (case q5 => assumption); (case q6 => assumption); (case q7 => assumption); (case q8 => assumption); (case q9 => assumption); (case q10 => assumption); (case q11 => assumption); (case k1 => k_asm); (case k2 => k_asm); (case k3 => k_asm); (case k4 => k_asm); (case kK => rfl); (case k5 => k_asm); (case kd => ktr_room); (case ku => ktr_units); k_whole); intro v9_z h9_z tk9_z F9_z N9_z hP9_z; obtain ⟨t9_z, e9_z⟩ := hP9_z; subst e9_z; (try k_sweep)) | ((with_reducible show wpAny _ _ (call (Value.ref 131) _) _ _ _); k_dflt (refine' use0 (c_first ?N9 ?sub ?q1 ?q2 ?q3 ?q4 ?q5 ?q6 ?q7) ?k1 ?k2 ?k3 ?k4 ?kK ?k5 ?kd ?ku ?_; (case N9 => k_asm); (case sub => assumption); (case q1 => assumption); (case q2 => assumption); (case q3 => k_mem); (case q4 => assumption); (case q5 => assumption); (case q6 => assumption); (case q7 => assumption); (case k1 => k_asm); (case k2 => k_asm); (case k3 => k_asm); (case k4 => k_asm); (case kK => rfl); (case k5 => k_asm); (case kd => ktr_room); (case ku => ktr_units); k_whole); intro v9_z h9_z tk9_z F9_z N9_z hP9_z; obtain ⟨t9_z, e9_z⟩ := hP9_z; subst e9_z; (try k_sweep)) | ((with_reducible show wpAny _ _ (call (Value.ref 124) [Value.float _ _, Value.float _ _]) _ _ _); k_dflt (refine' use0 d_signF ?k1 ?k2 ?k3 ?k4 ?kK ?k5 ?kd ?ku ?_; (case k1 => k_asm); (case k2 => k_asm); (case k3 => k_asm); (case k4 => k_asm); (case kK => rfl); (case k5 => k_asm); (case kd => ktr_room); (case ku => ktr_units); k_whole); intro v9_z h9_z tk9_z F9_z N9_z hP9_z; obtain ⟨t9_z, e9_z⟩ := hP9_z; subst e9_z; (try k_sweep)) | ((with_reducible show wpAny _ _ (call (Value.ref 124) [Value.int _ _, Value.int _ _]) _ _ _); k_dflt (refine' use0 d_sign ?k1 ?k2 ?k3 ?k4 ?kK ?k5 ?kd ?ku ?_; (case k1 => k_asm); (case k2 => k_asm); (case k3 => k_asm); (case k4 => k_asm); (case kK => rfl); (case k5 => k_asm); (case kd => ktr_room); (case ku => ktr_units); k_whole); intro v9_z h9_z tk9_z F9_z N9_z hP9_z; obtain ⟨t9_z, e9_z⟩ := hP9_z; subst e9_z; (try k_sweep)) | ((with_reducible show wpAny _ _ (subscriptTail _ _ (Value.ref _) (Value.int 3 _)) _ _ _); k_dflt (refine' item4_3 ?k1 ?k2 ?_ ?k6; (case k1 => k_asm); (case k2 => with_reducible assumption); (case k6 => with_unfolding_all rfl); k_whole)) | ((with_reducible show wpAny _ _ (subscriptTail _ _ (Value.ref _) (Value.int 2 _)) _ _ _); k_dflt (refine' item4_2 ?k1 ?k2 ?_ ?k6; (case k1 => k_asm); (case k2 => with_reducible assumption); (case k6 => with_unfolding_all rfl); k_whole)) | ((with_reducible show wpAny _ _ (subscriptTail _ _ (Value.ref _) (Value.int 1 _)) _ _ _); k_dflt (refine' item4_1 ?k1 ?k2 ?_ ?k6; (case k1 => k_asm); (case k2 => with_reducible assumption); (case k6 => with_unfolding_all rfl); k_whole)) | ((with_reducible show wpAny _ _ (subscriptTail _ _ (Value.ref _) (Value.int 0 _)) _ _ _); k_dflt (refine' item4_0 ?k1 ?k2 ?_ ?k6; (case k1 => k_asm); (case k2 => with_reducible assumption); (case k6 => with_unfolding_all rfl); k_whole)) | ((with_reducible show wpAny _ _ (subscriptTail _ _ (Value.ref _) (Value.int 1 _)) _ _ _); k_dflt (refine' item2_1 ?k1 ?k2 ?_ ?k6; (case k1 => k_asm); (case k2 => with_reducible assumption); (case k6 => with_unfolding_all rfl); k_whole)) | ((with_reducible show wpAny _ _ (subscriptTail _ _ (Value.ref _) (Value.int 0 _)) _ _ _); k_dflt (refine' item2_0 ?k1 ?k2 ?_ ?k6; (case k1 => k_asm); (case k2 => with_reducible assumption); (case k6 => with_unfolding_all rfl); k_whole)) | ((with_reducible show wpAny _ _ (subscriptTail _ _ (Value.ref _) (Value.int _ _)) _ _ _); k_dflt (refine' item_led ?k1 ?k2 ?k3 ?k4 ?k5 ?_ ?k6; (case k1 => k_asm); (case k2 => with_reducible assumption); (case k3 => omega); (case k4 => omega); (case k5 => assumption); (case k6 => with_unfolding_all rfl); k_whole)) | walk1)) | (k_unfold; (try dsimp only)))
    have N11 : News h₀ L h' ((c5, o5) :: (I, it) :: (c4, o4') :: NN) := fun q hq => N10 q (hn9 q (by
      simp only [List.mem_cons] at hq ⊢
      rcases hq with h | h | h | h <;> simp [h]))
    clear N10 hn9 z4 z1 z5 zD
    have f5' : ∀ q ∈ (I, it) :: (c4, o4') :: NN, q.1 ≠ c5 := by
      intro q hq
      rcases List.mem_cons.mp hq with rfl | hq
      · exact Ne.symm (hofI _ (.tail _ (.head _)))
      · rcases List.mem_cons.mp hq with rfl | hq
        · exact f45
        · exact f5 q hq
    refine for_led (InJ ((I, it) :: (c4, o4') :: NN) c5 Dt J Wi) rfl (fun i m news h => by obtain ⟨_, _, _, rfl, _⟩ := h; exact .tail _ (.tail _ (.tail _ hDt))) F9 N11 ⟨⟨rfl, rfl, rfl⟩, o5, v5, rfl, h5⟩ ?turn2 ?fin2 hE
    case turn2 =>
      clear F9 N11 h5 hE hcmp hf0'
      rintro i2 v m3 news it2 I2 h9 tk9 hv2 ⟨hm3, o5, v5, rfl, h5⟩ F N hofI2
      obtain ⟨y, hy⟩ : ∃ z, zs[i2]? = some z := by
        have : i2 < ys.length := by
          have := (Array.getElem?_eq_some_iff.mp hv2).1
          simpa using this
        exact ⟨_, List.getElem?_eq_getElem (hT.1 ▸ this)⟩
      obtain ⟨Dj, e3, hTj⟩ := hT.2 i2 y hy
      have e4 : ys[i2]? = some v := by simpa using hv2
      rw [e3] at e4
      cases e4
      rw [tailM_of hm3] at F
      unfold tailM at F
      (first | ((with_reducible show wpAny _ _ (compareOp CmpOp.NotEq (Value.int _ _) (Value.int _ _)) _ _ _); k_dflt (refine' ne_ints ?h ?_; (case h => assumption))) | ((with_reducible show wpAny _ _ (compareOp CmpOp.NotEq (Value.ref _) (Value.ref _)) _ _ _); k_dflt (refine' ne_lists ?N9 ?q1 ?q2 ?q3 ?q4 ?q5 ?ku ?_; (case N9 => k_asm); (case q1 => k_mem); (case q2 => k_mem); (case q3 => assumption); (case q4 => assumption); (case q5 => rfl); (case ku => units_room))) | ((with_reducible show wpAny _ _ (compareOp CmpOp.NotEq (Value.float _ _) (Value.float _ _)) _ _ _); k_dflt (refine' ne_flt ?h ?_; (case h => assumption))) | ((with_reducible show wpAny _ _ (exec (Stmt.For _ _ _ _ _) _) _ _ _); k_dflt (refine wpAny_For ?_)) | ((with_reducible show wpAny _ _ (call (Value.ref 35) _) _ _ _); k_dflt (refine' use0 (c_cmp ?N9 ?sub ?q1 ?q2 ?q3 ?q4 ?q5 ?q6 ?q7 ?q8 ?q9 ?q10 ?q11) ?k1 ?k2 ?k3 ?k4 ?kK ?k5 ?kd ?ku ?_; (case N9 => k_asm); (case sub => assumption); (case q1 => assumption); (case q2 => assumption); (case q3 => assumption); (case q4 => assumption); (case q5 => assumption); (case q6 => assumption); (case q7 => assumption); (case q8 => assumption); (case q9 => assumption); (case q10 => assumption); (case q11 => assumption); (case k1 => k_asm); (case k2 => k_asm); (case k3 => k_asm); (case k4 => k_asm); (case kK => rfl); (case k5 => k_asm); (case kd => ktr_room); (case ku => ktr_units); k_whole); intro v9_z h9_z tk9_z F9_z N9_z hP9_z; obtain ⟨t9_z, e9_z⟩ := hP9_z; subst e9_z; (try k_sweep)) | ((with_reducible show wpAny _ _ (call (Value.ref 131) _) _ _ _); k_dflt (refine' use0 (c_first ?N9 ?sub ?q1 ?q2 ?q3 ?q4 ?q5 ?q6 ?q7) ?k1 ?k2 ?k3 ?k4 ?kK ?k5 ?kd ?ku ?_; (case N9 => k_asm); (case sub => assumption); (case q1 => assumption); (case q2 => assumption); (case q3 => k_mem); (case q4 => assumption); (case q5 => assumption); (case q6 => assumption); (case q7 => assumption); (case k1 => k_asm); (case k2 => k_asm); (case k3 => k_asm); (case k4 => k_asm); (case kK => rfl); (case k5 => k_asm); (case kd => ktr_room); (case ku => ktr_units); k_whole); intro v9_z h9_z tk9_z F9_z N9_z hP9_z; obtain ⟨t9_z, e9_z⟩ := hP9_z; subst e9_z; (try k_sweep)) | ((with_reducible show wpAny _ _ (call (Value.ref 124) [Value.float _ _, Value.float _ _]) _ _ _); k_dflt (refine' use0 d_signF ?k1 ?k2 ?k3 ?k4 ?kK ?k5 ?kd ?ku ?_; (case k1 => k_asm); (case k2 => k_asm); (case k3 => k_asm); (case k4 => k_asm); (case kK => rfl); (case k5 => k_asm); (case kd => ktr_room); (case ku => ktr_units); k_whole); intro v9_z h9_z tk9_z F9_z N9_z hP9_z; obtain ⟨t9_z, e9_z⟩ := hP9_z; subst e9_z; (try k_sweep)) | ((with_reducible show wpAny _ _ (call (Value.ref 124) [Value.int _ _, Value.int _ _]) _ _ _); k_dflt (refine' use0 d_sign ?k1 ?k2 ?k3 ?k4 ?kK ?k5 ?kd ?ku ?_; (case k1 => k_asm); (case k2 => k_asm); (case k3 => k_asm); (case k4 => k_asm); (case kK => rfl); (case k5 => k_asm); (case kd => ktr_room); (case ku => ktr_units); k_whole); intro v9_z h9_z tk9_z F9_z N9_z hP9_z; obtain ⟨t9_z, e9_z⟩ := hP9_z; subst e9_z; (try k_sweep)) | ((with_reducible show wpAny _ _ (subscriptTail _ _ (Value.ref _) (Value.int 3 _)) _ _ _); k_dflt (refine' item4_3 ?k1 ?k2 ?_ ?k6; (case k1 => k_asm); (case k2 => with_reducible assumption); (case k6 => with_unfolding_all rfl); k_whole)) | ((with_reducible show wpAny _ _ (subscriptTail _ _ (Value.ref _) (Value.int 2 _)) _ _ _); k_dflt (refine' item4_2 ?k1 ?k2 ?_ ?k6; (case k1 => k_asm); (case k2 => with_reducible assumption); (case k6 => with_unfolding_all rfl); k_whole)) | ((with_reducible show wpAny _ _ (subscriptTail _ _ (Value.ref _) (Value.int 1 _)) _ _ _); k_dflt (refine' item4_1 ?k1 ?k2 ?_ ?k6; (case k1 => k_asm); (case k2 => with_reducible assumption); (case k6 => with_unfolding_all rfl); k_whole)) | ((with_reducible show wpAny _ _ (subscriptTail _ _ (Value.ref _) (Value.int 0 _)) _ _ _); k_dflt (refine' item4_0 ?k1 ?k2 ?_ ?k6; (case k1 => k_asm); (case k2 => with_reducible assumption); (case k6 => with_unfolding_all rfl); k_whole)) | ((with_reducible show wpAny _ _ (subscriptTail _ _ (Value.ref _) (Value.int 1 _)) _ _ _); k_dflt (refine' item2_1 ?k1 ?k2 ?_ ?k6; (case k1 => k_asm); (case k2 => with_reducible assumption); (case k6 => with_unfolding_all rfl); k_whole)) | ((with_reducible show wpAny _ _ (subscriptTail _ _ (Value.ref _) (Value.int 0 _)) _ _ _); k_dflt (refine' item2_0 ?k1 ?k2 ?_ ?k6; (case k1 => k_asm); (case k2 => with_reducible assumption); (case k6 => with_unfolding_all rfl); k_whole)) | ((with_reducible show wpAny _ _ (subscriptTail _ _ (Value.ref _) (Value.int _ _)) _ _ _); k_dflt (refine' item_led ?k1 ?k2 ?k3 ?k4 ?k5 ?_ ?k6; (case k1 => k_asm); (case k2 => with_reducible assumption); (case k3 => omega); (case k4 => omega); (case k5 => assumption); (case k6 => with_unfolding_all rfl); k_whole)) | walk1)
      refine storeX_C F (news_swap N) rfl (.head ?_) h5 ?_
      · intro q hq
        rcases List.mem_cons.mp hq with rfl | hq
        · exact Ne.symm (hofI2 _ (.head _))
        · exact f5' q hq
      intro h'' o5' F8 N8 h5'
      clear F N hm3 h5 f5' f4 f5 hTi hT hv hv2 e1 e3 hz hy hDt
      obtain ⟨Rw2, Sh2, Fl2, th2, ch2, cr2, cS2, cF2, vr2, vS2, vF2, b1, b2, b3, b4, b5, b6, b7⟩ := hTj.sel
      clear hTj
      iterate 2 (first | (first | ((with_reducible show wpAny _ _ (compareOp CmpOp.NotEq (Value.int _ _) (Value.int _ _)) _ _ _); k_dflt (refine' ne_ints ?h ?_; (case h => assumption))) | ((with_reducible show wpAny _ _ (compareOp CmpOp.NotEq (Value.ref _) (Value.ref _)) _ _ _); k_dflt (refine' ne_lists ?N9 ?q1 ?q2 ?q3 ?q4 ?q5 ?ku ?_; (case N9 => k_asm); (case q1 => k_mem); (case q2 => k_mem); (case q3 => assumption); (case q4 => assumption); (case q5 => rfl); (case ku => units_room))) | ((with_reducible show wpAny _ _ (compareOp CmpOp.NotEq (Value.float _ _) (Value.float _ _)) _ _ _); k_dflt (refine' ne_flt ?h ?_; (case h => assumption))) | ((with_reducible show wpAny _ _ (exec (Stmt.For _ _ _ _ _) _) _ _ _); k_dflt (refine wpAny_For ?_)) | ((with_reducible show wpAny _ _ (call (Value.ref 35) _) _ _ _); k_dflt (refine' use0 (c_cmp ?N9 ?sub ?q1 ?q2 ?q3 ?q4 ?q5 ?q6 ?q7 ?q8 ?q9 ?q10 ?q11) ?k1 ?k2 ?k3 ?k4 ?kK ?k5 ?kd ?ku ?_; (case N9 => k_asm); (case sub => assumption); (case q1 => assumption); (case q2 => assumption); (case q3 => assumption); (case q4 => assumption); (case q5 => assumption); (case q6 => assumption); (case q7 => assumption); (case q8 => assumption); (case q9 => assumption); (case q10 => assumption); (case q11 => assumption); (case k1 => k_asm); (case k2 => k_asm); (case k3 => k_asm); (case k4 => k_asm); (case kK => rfl); (case k5 => k_asm); (case kd => ktr_room); (case ku => ktr_units); k_whole); intro v9_z h9_z tk9_z F9_z N9_z hP9_z; obtain ⟨t9_z, e9_z⟩ := hP9_z; subst e9_z; (try k_sweep)) | ((with_reducible show wpAny _ _ (call (Value.ref 131) _) _ _ _); k_dflt (refine' use0 (c_first ?N9 ?sub ?q1 ?q2 ?q3 ?q4 ?q5 ?q6 ?q7) ?k1 ?k2 ?k3 ?k4 ?kK ?k5 ?kd ?ku ?_; (case N9 => k_asm); (case sub => assumption); (case q1 => assumption); (case q2 => assumption); (case q3 => k_mem); (case q4 => assumption); (case q5 => assumption); (case q6 => assumption); (case q7 => assumption); (case k1 => k_asm); (case k2 => k_asm); (case k3 => k_asm); (case k4 => k_asm); (case kK => rfl); (case k5 => k_asm); (case kd => ktr_room); (case ku => ktr_units); k_whole); intro v9_z h9_z tk9_z F9_z N9_z hP9_z; obtain ⟨t9_z, e9_z⟩ := hP9_z; subst e9_z; (try k_sweep)) | ((with_reducible show wpAny _ _ (call (Value.ref 124) [Value.float _ _, Value.float _ _]) _ _ _); k_dflt (refine' use0 d_signF ?k1 ?k2 ?k3 ?k4 ?kK ?k5 ?kd ?ku ?_; (case k1 => k_asm); (case k2 => k_asm); (case k3 => k_asm); (case k4 => k_asm); (case kK => rfl); (case k5 => k_asm); (case kd => ktr_room); (case ku => ktr_units); k_whole); intro v9_z h9_z tk9_z F9_z N9_z hP9_z; obtain ⟨t9_z, e9_z⟩ := hP9_z; subst e9_z; (try k_sweep)) | ((with_reducible show wpAny _ _ (call (Value.ref 124) [Value.int _ _, Value.int _ _]) _ _ _); k_dflt (refine' use0 d_sign ?k1 ?k2 ?k3 ?k4 ?kK ?k5 ?kd ?ku ?_; (case k1 => k_asm); (case k2 => k_asm); (case k3 => k_asm); (case k4 => k_asm); (case kK => rfl); (case k5 => k_asm); (case kd => ktr_room); (case ku => ktr_units); k_whole); intro v9_z h9_z tk9_z F9_z N9_z hP9_z; obtain ⟨t9_z, e9_z⟩ := hP9_z; subst e9_z; (try k_sweep)) | ((with_reducible show wpAny _ _ (subscriptTail _ _ (Value.ref _) (Value.int 3 _)) _ _ _); k_dflt (refine' item4_3 ?k1 ?k2 ?_ ?k6; (case k1 => k_asm); (case k2 => with_reducible assumption); (case k6 => with_unfolding_all rfl); k_whole)) | ((with_reducible show wpAny _ _ (subscriptTail _ _ (Value.ref _) (Value.int 2 _)) _ _ _); k_dflt (refine' item4_2 ?k1 ?k2 ?_ ?k6; (case k1 => k_asm); (case k2 => with_reducible assumption); (case k6 => with_unfolding_all rfl); k_whole)) | ((with_reducible show wpAny _ _ (subscriptTail _ _ (Value.ref _) (Value.int 1 _)) _ _ _); k_dflt (refine' item4_1 ?k1 ?k2 ?_ ?k6; (case k1 => k_asm); (case k2 => with_reducible assumption); (case k6 => with_unfolding_all rfl); k_whole)) | ((with_reducible show wpAny _ _ (subscriptTail _ _ (Value.ref _) (Value.int 0 _)) _ _ _); k_dflt (refine' item4_0 ?k1 ?k2 ?_ ?k6; (case k1 => k_asm); (case k2 => with_reducible assumption); (case k6 => with_unfolding_all rfl); k_whole)) | ((with_reducible show wpAny _ _ (subscriptTail _ _ (Value.ref _) (Value.int 1 _)) _ _ _); k_dflt (refine' item2_1 ?k1 ?k2 ?_ ?k6; (case k1 => k_asm); (case k2 => with_reducible assumption); (case k6 => with_unfolding_all rfl); k_whole)) | ((with_reducible show wpAny _ _ (subscriptTail _ _ (Value.ref _) (Value.int 0 _)) _ _ _); k_dflt (refine' item2_0 ?k1 ?k2 ?_ ?k6; (case k1 => k_asm); (case k2 => with_reducible assumption); (case k6 => with_unfolding_all rfl); k_whole)) | ((with_reducible show wpAny _ _ (subscriptTail _ _ (Value.ref _) (Value.int _ _)) _ _ _); k_dflt (refine' item_led ?k1 ?k2 ?k3 ?k4 ?k5 ?_ ?k6; (case k1 => k_asm); (case k2 => with_reducible assumption); (case k3 => omega); (case k4 => omega); (case k5 => assumption); (case k6 => with_unfolding_all rfl); k_whole)) | walk1) | (dsimp only; (first | ((with_reducible show wpAny _ _ (compareOp CmpOp.NotEq (Value.int _ _) (Value.int _ _)) _ _ _); k_dflt (refine' ne_ints ?h ?_; (case h => assumption))) | ((with_reducible show wpAny _ _ (compareOp CmpOp.NotEq (Value.ref _) (Value.ref _)) _ _ _); k_dflt (refine' ne_lists ?N9 ?q1 ?q2 ?q3 ?q4 ?q5 ?ku ?_; (case N9 => k_asm); (case q1 => k_mem); (case q2 => k_mem); (case q3 => assumption); (case q4 => assumption); (case q5 => rfl); (case ku => units_room))) | ((with_reducible show wpAny _ _ (compareOp CmpOp.NotEq (Value.float _ _) (Value.float _ _)) _ _ _); k_dflt (refine' ne_flt ?h ?_; (case h => assumption))) | ((with_reducible show wpAny _ _ (exec (Stmt.For _ _ _ _ _) _) _ _ _); k_dflt (refine wpAny_For ?_)) | ((with_reducible show wpAny _ _ (call (Value.ref 35) _) _ _ _); k_dflt (refine' use0 (c_cmp ?N9 ?sub ?q1 ?q2 ?q3 ?q4 ?q5 ?q6 ?q7 ?q8 ?q9 ?q10 ?q11) ?k1 ?k2 ?k3 ?k4 ?kK ?k5 ?kd ?ku ?_; (case N9 => k_asm); (case sub => assumption); (case q1 => assumption); (case q2 => assumption); (case q3 => assumption); (case q4 => assumption); (case q5 => assumption); (case q6 => assumption); (case q7 => assumption); (case q8 => assumption); (case q9 => assumption); (case q10 => assumption); (case q11 => assumption); (case k1 => k_asm); (case k2 => k_asm); (case k3 => k_asm); (case k4 => k_asm); (case kK => rfl); (case k5 => k_asm); (case kd => ktr_room); (case ku => ktr_units); k_whole); intro v9_z h9_z tk9_z F9_z N9_z hP9_z; obtain ⟨t9_z, e9_z⟩ := hP9_z; subst e9_z; (try k_sweep)) | ((with_reducible show wpAny _ _ (call (Value.ref 131) _) _ _ _); k_dflt (refine' use0 (c_first ?N9 ?sub ?q1 ?q2 ?q3 ?q4 ?q5 ?q6 ?q7) ?k1 ?k2 ?k3 ?k4 ?kK ?k5 ?kd ?ku ?_; (case N9 => k_asm); (case sub => assumption); (case q1 => assumption); (case q2 => assumption); (case q3 => k_mem); (case q4 => assumption); (case q5 => assumption); (case q6 => assumption); (case q7 => assumption); (case k1 => k_asm); (case k2 => k_asm); (case k3 => k_asm); (case k4 => k_asm); (case kK => rfl); (case k5 => k_asm); (case kd => ktr_room); (case ku => ktr_units); k_whole); intro v9_z h9_z tk9_z F9_z N9_z hP9_z; obtain ⟨t9_z, e9_z⟩ := hP9_z; subst e9_z; (try k_sweep)) | ((with_reducible show wpAny _ _ (call (Value.ref 124) [Value.float _ _, Value.float _ _]) _ _ _); k_dflt (refine' use0 d_signF ?k1 ?k2 ?k3 ?k4 ?kK ?k5 ?kd ?ku ?_; (case k1 => k_asm); (case k2 => k_asm); (case k3 => k_asm); (case k4 => k_asm); (case kK => rfl); (case k5 => k_asm); (case kd => ktr_room); (case ku => ktr_units); k_whole); intro v9_z h9_z tk9_z F9_z N9_z hP9_z; obtain ⟨t9_z, e9_z⟩ := hP9_z; subst e9_z; (try k_sweep)) | ((with_reducible show wpAny _ _ (call (Value.ref 124) [Value.int _ _, Value.int _ _]) _ _ _); k_dflt (refine' use0 d_sign ?k1 ?k2 ?k3 ?k4 ?kK ?k5 ?kd ?ku ?_; (case k1 => k_asm); (case k2 => k_asm); (case k3 => k_asm); (case k4 => k_asm); (case kK => rfl); (case k5 => k_asm); (case kd => ktr_room); (case ku => ktr_units); k_whole); intro v9_z h9_z tk9_z F9_z N9_z hP9_z; obtain ⟨t9_z, e9_z⟩ := hP9_z; subst e9_z; (try k_sweep)) | ((with_reducible show wpAny _ _ (subscriptTail _ _ (Value.ref _) (Value.int 3 _)) _ _ _); k_dflt (refine' item4_3 ?k1 ?k2 ?_ ?k6; (case k1 => k_asm); (case k2 => with_reducible assumption); (case k6 => with_unfolding_all rfl); k_whole)) | ((with_reducible show wpAny _ _ (subscriptTail _ _ (Value.ref _) (Value.int 2 _)) _ _ _); k_dflt (refine' item4_2 ?k1 ?k2 ?_ ?k6; (case k1 => k_asm); (case k2 => with_reducible assumption); (case k6 => with_unfolding_all rfl); k_whole)) | ((with_reducible show wpAny _ _ (subscriptTail _ _ (Value.ref _) (Value.int 1 _)) _ _ _); k_dflt (refine' item4_1 ?k1 ?k2 ?_ ?k6; (case k1 => k_asm); (case k2 => with_reducible assumption); (case k6 => with_unfolding_all rfl); k_whole)) | ((with_reducible show wpAny _ _ (subscriptTail _ _ (Value.ref _) (Value.int 0 _)) _ _ _); k_dflt (refine' item4_0 ?k1 ?k2 ?_ ?k6; (case k1 => k_asm); (case k2 => with_reducible assumption); (case k6 => with_unfolding_all rfl); k_whole)) | ((with_reducible show wpAny _ _ (subscriptTail _ _ (Value.ref _) (Value.int 1 _)) _ _ _); k_dflt (refine' item2_1 ?k1 ?k2 ?_ ?k6; (case k1 => k_asm); (case k2 => with_reducible assumption); (case k6 => with_unfolding_all rfl); k_whole)) | ((with_reducible show wpAny _ _ (subscriptTail _ _ (Value.ref _) (Value.int 0 _)) _ _ _); k_dflt (refine' item2_0 ?k1 ?k2 ?_ ?k6; (case k1 => k_asm); (case k2 => with_reducible assumption); (case k6 => with_unfolding_all rfl); k_whole)) | ((with_reducible show wpAny _ _ (subscriptTail _ _ (Value.ref _) (Value.int _ _)) _ _ _); k_dflt (refine' item_led ?k1 ?k2 ?k3 ?k4 ?k5 ?_ ?k6; (case k1 => k_asm); (case k2 => with_reducible assumption); (case k3 => omega); (case k4 => omega); (case k5 => assumption); (case k6 => with_unfolding_all rfl); k_whole)) | walk1)) | (k_unfold; (try dsimp only)))
      refine ints_comp (news := (c5, o5') :: (I2, it2) :: (I, it) :: (c4, o4') :: NN) (n := 5) (fun j => sgnI (((sharesI (colR z) (colG z) (colB z)).getD j (0, 0)).1 * ((sharesI (colR y) (colG y) (colB y)).getD j (0, 0)).2) (((sharesI (colR y) (colG y) (colB y)).getD j (0, 0)).1 * ((sharesI (colR z) (colG z) (colB z)).getD j (0, 0)).2)) F8 rfl (by with_unfolding_all rfl) (by with_unfolding_all rfl) (by decide) rfl (by decide) rfl rfl rfl rfl (fun _ => rfl) (by rw [sizeLine_eq]; omega) (by decide) ?src1 ?elt1 ?fin1
      case src1 =>
        iterate 7 (first | (first | ((with_reducible show wpAny _ _ (compareOp CmpOp.NotEq (Value.int _ _) (Value.int _ _)) _ _ _); k_dflt (refine' ne_ints ?h ?_; (case h => assumption))) | ((with_reducible show wpAny _ _ (compareOp CmpOp.NotEq (Value.ref _) (Value.ref _)) _ _ _); k_dflt (refine' ne_lists ?N9 ?q1 ?q2 ?q3 ?q4 ?q5 ?ku ?_; (case N9 => k_asm); (case q1 => k_mem); (case q2 => k_mem); (case q3 => assumption); (case q4 => assumption); (case q5 => rfl); (case ku => units_room))) | ((with_reducible show wpAny _ _ (compareOp CmpOp.NotEq (Value.float _ _) (Value.float _ _)) _ _ _); k_dflt (refine' ne_flt ?h ?_; (case h => assumption))) | ((with_reducible show wpAny _ _ (exec (Stmt.For _ _ _ _ _) _) _ _ _); k_dflt (refine wpAny_For ?_)) | ((with_reducible show wpAny _ _ (call (Value.ref 35) _) _ _ _); k_dflt (refine' use0 (c_cmp ?N9 ?sub ?q1 ?q2 ?q3 ?q4 ?q5 ?q6 ?q7 ?q8 ?q9 ?q10 ?q11) ?k1 ?k2 ?k3 ?k4 ?kK ?k5 ?kd ?ku ?_; (case N9 => k_asm); (case sub => assumption); (case q1 => assumption); (case q2 => assumption); (case q3 => assumption); (case q4 => assumption); (case q5 => assumption); (case q6 => assumption); (case q7 => assumption); (case q8 => assumption); (case q9 => assumption); (case q10 => assumption); (case q11 => assumption); (case k1 => k_asm); (case k2 => k_asm); (case k3 => k_asm); (case k4 => k_asm); (case kK => rfl); (case k5 => k_asm); (case kd => ktr_room); (case ku => ktr_units); k_whole); intro v9_z h9_z tk9_z F9_z N9_z hP9_z; obtain ⟨t9_z, e9_z⟩ := hP9_z; subst e9_z; (try k_sweep)) | ((with_reducible show wpAny _ _ (call (Value.ref 131) _) _ _ _); k_dflt (refine' use0 (c_first ?N9 ?sub ?q1 ?q2 ?q3 ?q4 ?q5 ?q6 ?q7) ?k1 ?k2 ?k3 ?k4 ?kK ?k5 ?kd ?ku ?_; (case N9 => k_asm); (case sub => assumption); (case q1 => assumption); (case q2 => assumption); (case q3 => k_mem); (case q4 => assumption); (case q5 => assumption); (case q6 => assumption); (case q7 => assumption); (case k1 => k_asm); (case k2 => k_asm); (case k3 => k_asm); (case k4 => k_asm); (case kK => rfl); (case k5 => k_asm); (case kd => ktr_room); (case ku => ktr_units); k_whole); intro v9_z h9_z tk9_z F9_z N9_z hP9_z; obtain ⟨t9_z, e9_z⟩ := hP9_z; subst e9_z; (try k_sweep)) | ((with_reducible show wpAny _ _ (call (Value.ref 124) [Value.float _ _, Value.float _ _]) _ _ _); k_dflt (refine' use0 d_signF ?k1 ?k2 ?k3 ?k4 ?kK ?k5 ?kd ?ku ?_; (case k1 => k_asm); (case k2 => k_asm); (case k3 => k_asm); (case k4 => k_asm); (case kK => rfl); (case k5 => k_asm); (case kd => ktr_room); (case ku => ktr_units); k_whole); intro v9_z h9_z tk9_z F9_z N9_z hP9_z; obtain ⟨t9_z, e9_z⟩ := hP9_z; subst e9_z; (try k_sweep)) | ((with_reducible show wpAny _ _ (call (Value.ref 124) [Value.int _ _, Value.int _ _]) _ _ _); k_dflt (refine' use0 d_sign ?k1 ?k2 ?k3 ?k4 ?kK ?k5 ?kd ?ku ?_; (case k1 => k_asm); (case k2 => k_asm); (case k3 => k_asm); (case k4 => k_asm); (case kK => rfl); (case k5 => k_asm); (case kd => ktr_room); (case ku => ktr_units); k_whole); intro v9_z h9_z tk9_z F9_z N9_z hP9_z; obtain ⟨t9_z, e9_z⟩ := hP9_z; subst e9_z; (try k_sweep)) | ((with_reducible show wpAny _ _ (subscriptTail _ _ (Value.ref _) (Value.int 3 _)) _ _ _); k_dflt (refine' item4_3 ?k1 ?k2 ?_ ?k6; (case k1 => k_asm); (case k2 => with_reducible assumption); (case k6 => with_unfolding_all rfl); k_whole)) | ((with_reducible show wpAny _ _ (subscriptTail _ _ (Value.ref _) (Value.int 2 _)) _ _ _); k_dflt (refine' item4_2 ?k1 ?k2 ?_ ?k6; (case k1 => k_asm); (case k2 => with_reducible assumption); (case k6 => with_unfolding_all rfl); k_whole)) | ((with_reducible show wpAny _ _ (subscriptTail _ _ (Value.ref _) (Value.int 1 _)) _ _ _); k_dflt (refine' item4_1 ?k1 ?k2 ?_ ?k6; (case k1 => k_asm); (case k2 => with_reducible assumption); (case k6 => with_unfolding_all rfl); k_whole)) | ((with_reducible show wpAny _ _ (subscriptTail _ _ (Value.ref _) (Value.int 0 _)) _ _ _); k_dflt (refine' item4_0 ?k1 ?k2 ?_ ?k6; (case k1 => k_asm); (case k2 => with_reducible assumption); (case k6 => with_unfolding_all rfl); k_whole)) | ((with_reducible show wpAny _ _ (subscriptTail _ _ (Value.ref _) (Value.int 1 _)) _ _ _); k_dflt (refine' item2_1 ?k1 ?k2 ?_ ?k6; (case k1 => k_asm); (case k2 => with_reducible assumption); (case k6 => with_unfolding_all rfl); k_whole)) | ((with_reducible show wpAny _ _ (subscriptTail _ _ (Value.ref _) (Value.int 0 _)) _ _ _); k_dflt (refine' item2_0 ?k1 ?k2 ?_ ?k6; (case k1 => k_asm); (case k2 => with_reducible assumption); (case k6 => with_unfolding_all rfl); k_whole)) | ((with_reducible show wpAny _ _ (subscriptTail _ _ (Value.ref _) (Value.int _ _)) _ _ _); k_dflt (refine' item_led ?k1 ?k2 ?k3 ?k4 ?k5 ?_ ?k6; (case k1 => k_asm); (case k2 => with_reducible assumption); (case k3 => omega); (case k4 => omega); (case k5 => assumption); (case k6 => with_unfolding_all rfl); k_whole)) | walk1) | (dsimp only; (first | ((with_reducible show wpAny _ _ (compareOp CmpOp.NotEq (Value.int _ _) (Value.int _ _)) _ _ _); k_dflt (refine' ne_ints ?h ?_; (case h => assumption))) | ((with_reducible show wpAny _ _ (compareOp CmpOp.NotEq (Value.ref _) (Value.ref _)) _ _ _); k_dflt (refine' ne_lists ?N9 ?q1 ?q2 ?q3 ?q4 ?q5 ?ku ?_; (case N9 => k_asm); (case q1 => k_mem); (case q2 => k_mem); (case q3 => assumption); (case q4 => assumption); (case q5 => rfl); (case ku => units_room))) | ((with_reducible show wpAny _ _ (compareOp CmpOp.NotEq (Value.float _ _) (Value.float _ _)) _ _ _); k_dflt (refine' ne_flt ?h ?_; (case h => assumption))) | ((with_reducible show wpAny _ _ (exec (Stmt.For _ _ _ _ _) _) _ _ _); k_dflt (refine wpAny_For ?_)) | ((with_reducible show wpAny _ _ (call (Value.ref 35) _) _ _ _); k_dflt (refine' use0 (c_cmp ?N9 ?sub ?q1 ?q2 ?q3 ?q4 ?q5 ?q6 ?q7 ?q8 ?q9 ?q10 ?q11) ?k1 ?k2 ?k3 ?k4 ?kK ?k5 ?kd ?ku ?_; (case N9 => k_asm); (case sub => assumption); (case q1 => assumption); (case q2 => assumption); (case q3 => assumption); (case q4 => assumption); (case q5 => assumption); (case q6 => assumption); (case q7 => assumption); (case q8 => assumption); (case q9 => assumption); (case q10 => assumption); (case q11 => assumption); (case k1 => k_asm); (case k2 => k_asm); (case k3 => k_asm); (case k4 => k_asm); (case kK => rfl); (case k5 => k_asm); (case kd => ktr_room); (case ku => ktr_units); k_whole); intro v9_z h9_z tk9_z F9_z N9_z hP9_z; obtain ⟨t9_z, e9_z⟩ := hP9_z; subst e9_z; (try k_sweep)) | ((with_reducible show wpAny _ _ (call (Value.ref 131) _) _ _ _); k_dflt (refine' use0 (c_first ?N9 ?sub ?q1 ?q2 ?q3 ?q4 ?q5 ?q6 ?q7) ?k1 ?k2 ?k3 ?k4 ?kK ?k5 ?kd ?ku ?_; (case N9 => k_asm); (case sub => assumption); (case q1 => assumption); (case q2 => assumption); (case q3 => k_mem); (case q4 => assumption); (case q5 => assumption); (case q6 => assumption); (case q7 => assumption); (case k1 => k_asm); (case k2 => k_asm); (case k3 => k_asm); (case k4 => k_asm); (case kK => rfl); (case k5 => k_asm); (case kd => ktr_room); (case ku => ktr_units); k_whole); intro v9_z h9_z tk9_z F9_z N9_z hP9_z; obtain ⟨t9_z, e9_z⟩ := hP9_z; subst e9_z; (try k_sweep)) | ((with_reducible show wpAny _ _ (call (Value.ref 124) [Value.float _ _, Value.float _ _]) _ _ _); k_dflt (refine' use0 d_signF ?k1 ?k2 ?k3 ?k4 ?kK ?k5 ?kd ?ku ?_; (case k1 => k_asm); (case k2 => k_asm); (case k3 => k_asm); (case k4 => k_asm); (case kK => rfl); (case k5 => k_asm); (case kd => ktr_room); (case ku => ktr_units); k_whole); intro v9_z h9_z tk9_z F9_z N9_z hP9_z; obtain ⟨t9_z, e9_z⟩ := hP9_z; subst e9_z; (try k_sweep)) | ((with_reducible show wpAny _ _ (call (Value.ref 124) [Value.int _ _, Value.int _ _]) _ _ _); k_dflt (refine' use0 d_sign ?k1 ?k2 ?k3 ?k4 ?kK ?k5 ?kd ?ku ?_; (case k1 => k_asm); (case k2 => k_asm); (case k3 => k_asm); (case k4 => k_asm); (case kK => rfl); (case k5 => k_asm); (case kd => ktr_room); (case ku => ktr_units); k_whole); intro v9_z h9_z tk9_z F9_z N9_z hP9_z; obtain ⟨t9_z, e9_z⟩ := hP9_z; subst e9_z; (try k_sweep)) | ((with_reducible show wpAny _ _ (subscriptTail _ _ (Value.ref _) (Value.int 3 _)) _ _ _); k_dflt (refine' item4_3 ?k1 ?k2 ?_ ?k6; (case k1 => k_asm); (case k2 => with_reducible assumption); (case k6 => with_unfolding_all rfl); k_whole)) | ((with_reducible show wpAny _ _ (subscriptTail _ _ (Value.ref _) (Value.int 2 _)) _ _ _); k_dflt (refine' item4_2 ?k1 ?k2 ?_ ?k6; (case k1 => k_asm); (case k2 => with_reducible assumption); (case k6 => with_unfolding_all rfl); k_whole)) | ((with_reducible show wpAny _ _ (subscriptTail _ _ (Value.ref _) (Value.int 1 _)) _ _ _); k_dflt (refine' item4_1 ?k1 ?k2 ?_ ?k6; (case k1 => k_asm); (case k2 => with_reducible assumption); (case k6 => with_unfolding_all rfl); k_whole)) | ((with_reducible show wpAny _ _ (subscriptTail _ _ (Value.ref _) (Value.int 0 _)) _ _ _); k_dflt (refine' item4_0 ?k1 ?k2 ?_ ?k6; (case k1 => k_asm); (case k2 => with_reducible assumption); (case k6 => with_unfolding_all rfl); k_whole)) | ((with_reducible show wpAny _ _ (subscriptTail _ _ (Value.ref _) (Value.int 1 _)) _ _ _); k_dflt (refine' item2_1 ?k1 ?k2 ?_ ?k6; (case k1 => k_asm); (case k2 => with_reducible assumption); (case k6 => with_unfolding_all rfl); k_whole)) | ((with_reducible show wpAny _ _ (subscriptTail _ _ (Value.ref _) (Value.int 0 _)) _ _ _); k_dflt (refine' item2_0 ?k1 ?k2 ?_ ?k6; (case k1 => k_asm); (case k2 => with_reducible assumption); (case k6 => with_unfolding_all rfl); k_whole)) | ((with_reducible show wpAny _ _ (subscriptTail _ _ (Value.ref _) (Value.int _ _)) _ _ _); k_dflt (refine' item_led ?k1 ?k2 ?k3 ?k4 ?k5 ?_ ?k6; (case k1 => k_asm); (case k2 => with_reducible assumption); (case k3 => omega); (case k4 => omega); (case k5 => assumption); (case k6 => with_unfolding_all rfl); k_whole)) | walk1)) | (k_unfold; (try dsimp only)))
        exact ⟨_, _, _, _, _, _, rfl, rfl, by k_asm, by k_asm, by assumption⟩
      case elt1 =>
        intro j t I3 oI3 C3 oC3 D3 m3 ys3 h3 tk3 E3 hj hC3 hx3 F7 N7
        clear F8 N8 hJ hdx hTp hK hWi hW hws hofI hofI2
        obtain ⟨S1, u1, v1, k1, q1, r1⟩ := a6 j hj
        obtain ⟨S2, u2, v2, k2, q2, r2⟩ := b6 j hj
        have q1' : vS[((j : Nat) : Int).toNat]? = some (.ref S1) := by rw [Int.toNat_natCast]; exact q1
        have q2' : vS2[((j : Nat) : Int).toNat]? = some (.ref S2) := by rw [Int.toNat_natCast]; exact q2
        have p1 := shares_ok z j hj
        have p2 := shares_ok y j hj
        clear q1 q2 a6 a7 b6 b7 a2 a3 a5 b2 b3 b5
        generalize hn9 : (I3, oI3) :: (C3, oC3) :: (D3, LCg.lst ys3) :: (c5, o5') :: (I2, it2) :: (I, it) :: (c4, o4') :: NN = news9 at N7 ⊢
        have up : ∀ q ∈ NN, q ∈ news9 := fun q hq => by rw [← hn9]; simp [hq]
        have zC : (C3, oC3) ∈ news9 := by rw [← hn9]; simp
        have z5 : (c5, o5') ∈ news9 := by rw [← hn9]; simp
        have z4 : (c4, o4') ∈ news9 := by rw [← hn9]; simp
        replace r1 := up _ r1
        replace r2 := up _ r2
        replace a1 := up _ a1
        replace a4 := up _ a4
        replace b1 := up _ b1
        replace b4 := up _ b4
        clear up hn9
        generalize ((sharesI (colR z) (colG z) (colB z)).getD j (0, 0)).1 = nz at *
        generalize ((sharesI (colR z) (colG z) (colB z)).getD j (0, 0)).2 = mz at *
        generalize ((sharesI (colR y) (colG y) (colB y)).getD j (0, 0)).1 = ny at *
        generalize ((sharesI (colR y) (colG y) (colB y)).getD j (0, 0)).2 = my at *
        iterate 53 (first | (first | ((with_reducible show wpAny _ _ (compareOp CmpOp.NotEq (Value.int _ _) (Value.int _ _)) _ _ _); k_dflt (refine' ne_ints ?h ?_; (case h => assumption))) | ((with_reducible show wpAny _ _ (compareOp CmpOp.NotEq (Value.ref _) (Value.ref _)) _ _ _); k_dflt (refine' ne_lists ?N9 ?q1 ?q2 ?q3 ?q4 ?q5 ?ku ?_; (case N9 => k_asm); (case q1 => k_mem); (case q2 => k_mem); (case q3 => assumption); (case q4 => assumption); (case q5 => rfl); (case ku => units_room))) | ((with_reducible show wpAny _ _ (compareOp CmpOp.NotEq (Value.float _ _) (Value.float _ _)) _ _ _); k_dflt (refine' ne_flt ?h ?_; (case h => assumption))) | ((with_reducible show wpAny _ _ (exec (Stmt.For _ _ _ _ _) _) _ _ _); k_dflt (refine wpAny_For ?_)) | ((with_reducible show wpAny _ _ (call (Value.ref 35) _) _ _ _); k_dflt (refine' use0 (c_cmp ?N9 ?sub ?q1 ?q2 ?q3 ?q4 ?q5 ?q6 ?q7 ?q8 ?q9 ?q10 ?q11) ?k1 ?k2 ?k3 ?k4 ?kK ?k5 ?kd ?ku ?_; (case N9 => k_asm); (case sub => assumption); (case q1 => assumption); (case q2 => assumption); (case q3 => assumption); (case q4 => assumption); (case q5 => assumption); (case q6 => assumption); (case q7 => assumption); (case q8 => assumption); (case q9 => assumption); (case q10 => assumption); (case q11 => assumption); (case k1 => k_asm); (case k2 => k_asm); (case k3 => k_asm); (case k4 => k_asm); (case kK => rfl); (case k5 => k_asm); (case kd => ktr_room); (case ku => ktr_units); k_whole); intro v9_z h9_z tk9_z F9_z N9_z hP9_z; obtain ⟨t9_z, e9_z⟩ := hP9_z; subst e9_z; (try k_sweep)) | ((with_reducible show wpAny _ _ (call (Value.ref 131) _) _ _ _); k_dflt (refine' use0 (c_first ?N9 ?sub ?q1 ?q2 ?q3 ?q4 ?q5 ?q6 ?q7) ?k1 ?k2 ?k3 ?k4 ?kK ?k5 ?kd ?ku ?_; (case N9 => k_asm); (case sub => assumption); (case q1 => assumption); (case q2 => assumption); (case q3 => k_mem); (case q4 => assumption); (case q5 => assumption); (case q6 => assumption); (case q7 => assumption); (case k1 => k_asm); (case k2 => k_asm); (case k3 => k_asm); (case k4 => k_asm); (case kK => rfl); (case k5 => k_asm); (case kd => ktr_room); (case ku => ktr_units); k_whole); intro v9_z h9_z tk9_z F9_z N9_z hP9_z; obtain ⟨t9_z, e9_z⟩ := hP9_z; subst e9_z; (try k_sweep)) | ((with_reducible show wpAny _ _ (call (Value.ref 124) [Value.float _ _, Value.float _ _]) _ _ _); k_dflt (refine' use0 d_signF ?k1 ?k2 ?k3 ?k4 ?kK ?k5 ?kd ?ku ?_; (case k1 => k_asm); (case k2 => k_asm); (case k3 => k_asm); (case k4 => k_asm); (case kK => rfl); (case k5 => k_asm); (case kd => ktr_room); (case ku => ktr_units); k_whole); intro v9_z h9_z tk9_z F9_z N9_z hP9_z; obtain ⟨t9_z, e9_z⟩ := hP9_z; subst e9_z; (try k_sweep)) | ((with_reducible show wpAny _ _ (call (Value.ref 124) [Value.int _ _, Value.int _ _]) _ _ _); k_dflt (refine' use0 d_sign ?k1 ?k2 ?k3 ?k4 ?kK ?k5 ?kd ?ku ?_; (case k1 => k_asm); (case k2 => k_asm); (case k3 => k_asm); (case k4 => k_asm); (case kK => rfl); (case k5 => k_asm); (case kd => ktr_room); (case ku => ktr_units); k_whole); intro v9_z h9_z tk9_z F9_z N9_z hP9_z; obtain ⟨t9_z, e9_z⟩ := hP9_z; subst e9_z; (try k_sweep)) | ((with_reducible show wpAny _ _ (subscriptTail _ _ (Value.ref _) (Value.int 3 _)) _ _ _); k_dflt (refine' item4_3 ?k1 ?k2 ?_ ?k6; (case k1 => k_asm); (case k2 => with_reducible assumption); (case k6 => with_unfolding_all rfl); k_whole)) | ((with_reducible show wpAny _ _ (subscriptTail _ _ (Value.ref _) (Value.int 2 _)) _ _ _); k_dflt (refine' item4_2 ?k1 ?k2 ?_ ?k6; (case k1 => k_asm); (case k2 => with_reducible assumption); (case k6 => with_unfolding_all rfl); k_whole)) | ((with_reducible show wpAny _ _ (subscriptTail _ _ (Value.ref _) (Value.int 1 _)) _ _ _); k_dflt (refine' item4_1 ?k1 ?k2 ?_ ?k6; (case k1 => k_asm); (case k2 => with_reducible assumption); (case k6 => with_unfolding_all rfl); k_whole)) | ((with_reducible show wpAny _ _ (subscriptTail _ _ (Value.ref _) (Value.int 0 _)) _ _ _); k_dflt (refine' item4_0 ?k1 ?k2 ?_ ?k6; (case k1 => k_asm); (case k2 => with_reducible assumption); (case k6 => with_unfolding_all rfl); k_whole)) | ((with_reducible show wpAny _ _ (subscriptTail _ _ (Value.ref _) (Value.int 1 _)) _ _ _); k_dflt (refine' item2_1 ?k1 ?k2 ?_ ?k6; (case k1 => k_asm); (case k2 => with_reducible assumption); (case k6 => with_unfolding_all rfl); k_whole)) | ((with_reducible show wpAny _ _ (subscriptTail _ _ (Value.ref _) (Value.int 0 _)) _ _ _); k_dflt (refine' item2_0 ?k1 ?k2 ?_ ?k6; (case k1 => k_asm); (case k2 => with_reducible assumption); (case k6 => with_unfolding_all rfl); k_whole)) | ((with_reducible show wpAny _ _ (subscriptTail _ _ (Value.ref _) (Value.int _ _)) _ _ _); k_dflt (refine' item_led ?k1 ?k2 ?k3 ?k4 ?k5 ?_ ?k6; (case k1 => k_asm); (case k2 => with_reducible assumption); (case k3 => omega); (case k4 => omega); (case k5 => assumption); (case k6 => with_unfolding_all rfl); k_whole)) | walk1) | (dsimp only; (first | ((with_reducible show wpAny _ _ (compareOp CmpOp.NotEq (Value.int _ _) (Value.int _ _)) _ _ _); k_dflt (refine' ne_ints ?h ?_; (case h => assumption))) | ((with_reducible show wpAny _ _ (compareOp CmpOp.NotEq (Value.ref _) (Value.ref _)) _ _ _); k_dflt (refine' ne_lists ?N9 ?q1 ?q2 ?q3 ?q4 ?q5 ?ku ?_; (case N9 => k_asm); (case q1 => k_mem); (case q2 => k_mem); (case q3 => assumption); (case q4 => assumption); (case q5 => rfl); (case ku => units_room))) | ((with_reducible show wpAny _ _ (compareOp CmpOp.NotEq (Value.float _ _) (Value.float _ _)) _ _ _); k_dflt (refine' ne_flt ?h ?_; (case h => assumption))) | ((with_reducible show wpAny _ _ (exec (Stmt.For _ _ _ _ _) _) _ _ _); k_dflt (refine wpAny_For ?_)) | ((with_reducible show wpAny _ _ (call (Value.ref 35) _) _ _ _); k_dflt (refine' use0 (c_cmp ?N9 ?sub ?q1 ?q2 ?q3 ?q4 ?q5 ?q6 ?q7 ?q8 ?q9 ?q10 ?q11) ?k1 ?k2 ?k3 ?k4 ?kK ?k5 ?kd ?ku ?_; (case N9 => k_asm); (case sub => assumption); (case q1 => assumption); (case q2 => assumption); (case q3 => assumption); (case q4 => assumption); (case q5 => assumption); (case q6 => assumption); (case q7 => assumption); (case q8 => assumption); (case q9 => assumption); (case q10 => assumption); (case q11 => assumption); (case k1 => k_asm); (case k2 => k_asm); (case k3 => k_asm); (case k4 => k_asm); (case kK => rfl); (case k5 => k_asm); (case kd => ktr_room); (case ku => ktr_units); k_whole); intro v9_z h9_z tk9_z F9_z N9_z hP9_z; obtain ⟨t9_z, e9_z⟩ := hP9_z; subst e9_z; (try k_sweep)) | ((with_reducible show wpAny _ _ (call (Value.ref 131) _) _ _ _); k_dflt (refine' use0 (c_first ?N9 ?sub ?q1 ?q2 ?q3 ?q4 ?q5 ?q6 ?q7) ?k1 ?k2 ?k3 ?k4 ?kK ?k5 ?kd ?ku ?_; (case N9 => k_asm); (case sub => assumption); (case q1 => assumption); (case q2 => assumption); (case q3 => k_mem); (case q4 => assumption); (case q5 => assumption); (case q6 => assumption); (case q7 => assumption); (case k1 => k_asm); (case k2 => k_asm); (case k3 => k_asm); (case k4 => k_asm); (case kK => rfl); (case k5 => k_asm); (case kd => ktr_room); (case ku => ktr_units); k_whole); intro v9_z h9_z tk9_z F9_z N9_z hP9_z; obtain ⟨t9_z, e9_z⟩ := hP9_z; subst e9_z; (try k_sweep)) | ((with_reducible show wpAny _ _ (call (Value.ref 124) [Value.float _ _, Value.float _ _]) _ _ _); k_dflt (refine' use0 d_signF ?k1 ?k2 ?k3 ?k4 ?kK ?k5 ?kd ?ku ?_; (case k1 => k_asm); (case k2 => k_asm); (case k3 => k_asm); (case k4 => k_asm); (case kK => rfl); (case k5 => k_asm); (case kd => ktr_room); (case ku => ktr_units); k_whole); intro v9_z h9_z tk9_z F9_z N9_z hP9_z; obtain ⟨t9_z, e9_z⟩ := hP9_z; subst e9_z; (try k_sweep)) | ((with_reducible show wpAny _ _ (call (Value.ref 124) [Value.int _ _, Value.int _ _]) _ _ _); k_dflt (refine' use0 d_sign ?k1 ?k2 ?k3 ?k4 ?kK ?k5 ?kd ?ku ?_; (case k1 => k_asm); (case k2 => k_asm); (case k3 => k_asm); (case k4 => k_asm); (case kK => rfl); (case k5 => k_asm); (case kd => ktr_room); (case ku => ktr_units); k_whole); intro v9_z h9_z tk9_z F9_z N9_z hP9_z; obtain ⟨t9_z, e9_z⟩ := hP9_z; subst e9_z; (try k_sweep)) | ((with_reducible show wpAny _ _ (subscriptTail _ _ (Value.ref _) (Value.int 3 _)) _ _ _); k_dflt (refine' item4_3 ?k1 ?k2 ?_ ?k6; (case k1 => k_asm); (case k2 => with_reducible assumption); (case k6 => with_unfolding_all rfl); k_whole)) | ((with_reducible show wpAny _ _ (subscriptTail _ _ (Value.ref _) (Value.int 2 _)) _ _ _); k_dflt (refine' item4_2 ?k1 ?k2 ?_ ?k6; (case k1 => k_asm); (case k2 => with_reducible assumption); (case k6 => with_unfolding_all rfl); k_whole)) | ((with_reducible show wpAny _ _ (subscriptTail _ _ (Value.ref _) (Value.int 1 _)) _ _ _); k_dflt (refine' item4_1 ?k1 ?k2 ?_ ?k6; (case k1 => k_asm); (case k2 => with_reducible assumption); (case k6 => with_unfolding_all rfl); k_whole)) | ((with_reducible show wpAny _ _ (subscriptTail _ _ (Value.ref _) (Value.int 0 _)) _ _ _); k_dflt (refine' item4_0 ?k1 ?k2 ?_ ?k6; (case k1 => k_asm); (case k2 => with_reducible assumption); (case k6 => with_unfolding_all rfl); k_whole)) | ((with_reducible show wpAny _ _ (subscriptTail _ _ (Value.ref _) (Value.int 1 _)) _ _ _); k_dflt (refine' item2_1 ?k1 ?k2 ?_ ?k6; (case k1 => k_asm); (case k2 => with_reducible assumption); (case k6 => with_unfolding_all rfl); k_whole)) | ((with_reducible show wpAny _ _ (subscriptTail _ _ (Value.ref _) (Value.int 0 _)) _ _ _); k_dflt (refine' item2_0 ?k1 ?k2 ?_ ?k6; (case k1 => k_asm); (case k2 => with_reducible assumption); (case k6 => with_unfolding_all rfl); k_whole)) | ((with_reducible show wpAny _ _ (subscriptTail _ _ (Value.ref _) (Value.int _ _)) _ _ _); k_dflt (refine' item_led ?k1 ?k2 ?k3 ?k4 ?k5 ?_ ?k6; (case k1 => k_asm); (case k2 => with_reducible assumption); (case k3 => omega); (case k4 => omega); (case k5 => assumption); (case k6 => with_unfolding_all rfl); k_whole)) | walk1)) | (k_unfold; (try dsimp only)))
        exact ⟨_, _, _, rfl, rfl, by k_asm, by k_asm⟩
      case fin1 =>
        intro ys1 D1 h7 tk7 hI1 F7 N7 o7
        clear F8 N8
        iterate 1 (first | (first | ((with_reducible show wpAny _ _ (compareOp CmpOp.NotEq (Value.int _ _) (Value.int _ _)) _ _ _); k_dflt (refine' ne_ints ?h ?_; (case h => assumption))) | ((with_reducible show wpAny _ _ (compareOp CmpOp.NotEq (Value.ref _) (Value.ref _)) _ _ _); k_dflt (refine' ne_lists ?N9 ?q1 ?q2 ?q3 ?q4 ?q5 ?ku ?_; (case N9 => k_asm); (case q1 => k_mem); (case q2 => k_mem); (case q3 => assumption); (case q4 => assumption); (case q5 => rfl); (case ku => units_room))) | ((with_reducible show wpAny _ _ (compareOp CmpOp.NotEq (Value.float _ _) (Value.float _ _)) _ _ _); k_dflt (refine' ne_flt ?h ?_; (case h => assumption))) | ((with_reducible show wpAny _ _ (exec (Stmt.For _ _ _ _ _) _) _ _ _); k_dflt (refine wpAny_For ?_)) | ((with_reducible show wpAny _ _ (call (Value.ref 35) _) _ _ _); k_dflt (refine' use0 (c_cmp ?N9 ?sub ?q1 ?q2 ?q3 ?q4 ?q5 ?q6 ?q7 ?q8 ?q9 ?q10 ?q11) ?k1 ?k2 ?k3 ?k4 ?kK ?k5 ?kd ?ku ?_; (case N9 => k_asm); (case sub => assumption); (case q1 => assumption); (case q2 => assumption); (case q3 => assumption); (case q4 => assumption); (case q5 => assumption); (case q6 => assumption); (case q7 => assumption); (case q8 => assumption); (case q9 => assumption); (case q10 => assumption); (case q11 => assumption); (case k1 => k_asm); (case k2 => k_asm); (case k3 => k_asm); (case k4 => k_asm); (case kK => rfl); (case k5 => k_asm); (case kd => ktr_room); (case ku => ktr_units); k_whole); intro v9_z h9_z tk9_z F9_z N9_z hP9_z; obtain ⟨t9_z, e9_z⟩ := hP9_z; subst e9_z; (try k_sweep)) | ((with_reducible show wpAny _ _ (call (Value.ref 131) _) _ _ _); k_dflt (refine' use0 (c_first ?N9 ?sub ?q1 ?q2 ?q3 ?q4 ?q5 ?q6 ?q7) ?k1 ?k2 ?k3 ?k4 ?kK ?k5 ?kd ?ku ?_; (case N9 => k_asm); (case sub => assumption); (case q1 => assumption); (case q2 => assumption); (case q3 => k_mem); (case q4 => assumption); (case q5 => assumption); (case q6 => assumption); (case q7 => assumption); (case k1 => k_asm); (case k2 => k_asm); (case k3 => k_asm); (case k4 => k_asm); (case kK => rfl); (case k5 => k_asm); (case kd => ktr_room); (case ku => ktr_units); k_whole); intro v9_z h9_z tk9_z F9_z N9_z hP9_z; obtain ⟨t9_z, e9_z⟩ := hP9_z; subst e9_z; (try k_sweep)) | ((with_reducible show wpAny _ _ (call (Value.ref 124) [Value.float _ _, Value.float _ _]) _ _ _); k_dflt (refine' use0 d_signF ?k1 ?k2 ?k3 ?k4 ?kK ?k5 ?kd ?ku ?_; (case k1 => k_asm); (case k2 => k_asm); (case k3 => k_asm); (case k4 => k_asm); (case kK => rfl); (case k5 => k_asm); (case kd => ktr_room); (case ku => ktr_units); k_whole); intro v9_z h9_z tk9_z F9_z N9_z hP9_z; obtain ⟨t9_z, e9_z⟩ := hP9_z; subst e9_z; (try k_sweep)) | ((with_reducible show wpAny _ _ (call (Value.ref 124) [Value.int _ _, Value.int _ _]) _ _ _); k_dflt (refine' use0 d_sign ?k1 ?k2 ?k3 ?k4 ?kK ?k5 ?kd ?ku ?_; (case k1 => k_asm); (case k2 => k_asm); (case k3 => k_asm); (case k4 => k_asm); (case kK => rfl); (case k5 => k_asm); (case kd => ktr_room); (case ku => ktr_units); k_whole); intro v9_z h9_z tk9_z F9_z N9_z hP9_z; obtain ⟨t9_z, e9_z⟩ := hP9_z; subst e9_z; (try k_sweep)) | ((with_reducible show wpAny _ _ (subscriptTail _ _ (Value.ref _) (Value.int 3 _)) _ _ _); k_dflt (refine' item4_3 ?k1 ?k2 ?_ ?k6; (case k1 => k_asm); (case k2 => with_reducible assumption); (case k6 => with_unfolding_all rfl); k_whole)) | ((with_reducible show wpAny _ _ (subscriptTail _ _ (Value.ref _) (Value.int 2 _)) _ _ _); k_dflt (refine' item4_2 ?k1 ?k2 ?_ ?k6; (case k1 => k_asm); (case k2 => with_reducible assumption); (case k6 => with_unfolding_all rfl); k_whole)) | ((with_reducible show wpAny _ _ (subscriptTail _ _ (Value.ref _) (Value.int 1 _)) _ _ _); k_dflt (refine' item4_1 ?k1 ?k2 ?_ ?k6; (case k1 => k_asm); (case k2 => with_reducible assumption); (case k6 => with_unfolding_all rfl); k_whole)) | ((with_reducible show wpAny _ _ (subscriptTail _ _ (Value.ref _) (Value.int 0 _)) _ _ _); k_dflt (refine' item4_0 ?k1 ?k2 ?_ ?k6; (case k1 => k_asm); (case k2 => with_reducible assumption); (case k6 => with_unfolding_all rfl); k_whole)) | ((with_reducible show wpAny _ _ (subscriptTail _ _ (Value.ref _) (Value.int 1 _)) _ _ _); k_dflt (refine' item2_1 ?k1 ?k2 ?_ ?k6; (case k1 => k_asm); (case k2 => with_reducible assumption); (case k6 => with_unfolding_all rfl); k_whole)) | ((with_reducible show wpAny _ _ (subscriptTail _ _ (Value.ref _) (Value.int 0 _)) _ _ _); k_dflt (refine' item2_0 ?k1 ?k2 ?_ ?k6; (case k1 => k_asm); (case k2 => with_reducible assumption); (case k6 => with_unfolding_all rfl); k_whole)) | ((with_reducible show wpAny _ _ (subscriptTail _ _ (Value.ref _) (Value.int _ _)) _ _ _); k_dflt (refine' item_led ?k1 ?k2 ?k3 ?k4 ?k5 ?_ ?k6; (case k1 => k_asm); (case k2 => with_reducible assumption); (case k3 => omega); (case k4 => omega); (case k5 => assumption); (case k6 => with_unfolding_all rfl); k_whole)) | walk1) | (dsimp only; (first | ((with_reducible show wpAny _ _ (compareOp CmpOp.NotEq (Value.int _ _) (Value.int _ _)) _ _ _); k_dflt (refine' ne_ints ?h ?_; (case h => assumption))) | ((with_reducible show wpAny _ _ (compareOp CmpOp.NotEq (Value.ref _) (Value.ref _)) _ _ _); k_dflt (refine' ne_lists ?N9 ?q1 ?q2 ?q3 ?q4 ?q5 ?ku ?_; (case N9 => k_asm); (case q1 => k_mem); (case q2 => k_mem); (case q3 => assumption); (case q4 => assumption); (case q5 => rfl); (case ku => units_room))) | ((with_reducible show wpAny _ _ (compareOp CmpOp.NotEq (Value.float _ _) (Value.float _ _)) _ _ _); k_dflt (refine' ne_flt ?h ?_; (case h => assumption))) | ((with_reducible show wpAny _ _ (exec (Stmt.For _ _ _ _ _) _) _ _ _); k_dflt (refine wpAny_For ?_)) | ((with_reducible show wpAny _ _ (call (Value.ref 35) _) _ _ _); k_dflt (refine' use0 (c_cmp ?N9 ?sub ?q1 ?q2 ?q3 ?q4 ?q5 ?q6 ?q7 ?q8 ?q9 ?q10 ?q11) ?k1 ?k2 ?k3 ?k4 ?kK ?k5 ?kd ?ku ?_; (case N9 => k_asm); (case sub => assumption); (case q1 => assumption); (case q2 => assumption); (case q3 => assumption); (case q4 => assumption); (case q5 => assumption); (case q6 => assumption); (case q7 => assumption); (case q8 => assumption); (case q9 => assumption); (case q10 => assumption); (case q11 => assumption); (case k1 => k_asm); (case k2 => k_asm); (case k3 => k_asm); (case k4 => k_asm); (case kK => rfl); (case k5 => k_asm); (case kd => ktr_room); (case ku => ktr_units); k_whole); intro v9_z h9_z tk9_z F9_z N9_z hP9_z; obtain ⟨t9_z, e9_z⟩ := hP9_z; subst e9_z; (try k_sweep)) | ((with_reducible show wpAny _ _ (call (Value.ref 131) _) _ _ _); k_dflt (refine' use0 (c_first ?N9 ?sub ?q1 ?q2 ?q3 ?q4 ?q5 ?q6 ?q7) ?k1 ?k2 ?k3 ?k4 ?kK ?k5 ?kd ?ku ?_; (case N9 => k_asm); (case sub => assumption); (case q1 => assumption); (case q2 => assumption); (case q3 => k_mem); (case q4 => assumption); (case q5 => assumption); (case q6 => assumption); (case q7 => assumption); (case k1 => k_asm); (case k2 => k_asm); (case k3 => k_asm); (case k4 => k_asm); (case kK => rfl); (case k5 => k_asm); (case kd => ktr_room); (case ku => ktr_units); k_whole); intro v9_z h9_z tk9_z F9_z N9_z hP9_z; obtain ⟨t9_z, e9_z⟩ := hP9_z; subst e9_z; (try k_sweep)) | ((with_reducible show wpAny _ _ (call (Value.ref 124) [Value.float _ _, Value.float _ _]) _ _ _); k_dflt (refine' use0 d_signF ?k1 ?k2 ?k3 ?k4 ?kK ?k5 ?kd ?ku ?_; (case k1 => k_asm); (case k2 => k_asm); (case k3 => k_asm); (case k4 => k_asm); (case kK => rfl); (case k5 => k_asm); (case kd => ktr_room); (case ku => ktr_units); k_whole); intro v9_z h9_z tk9_z F9_z N9_z hP9_z; obtain ⟨t9_z, e9_z⟩ := hP9_z; subst e9_z; (try k_sweep)) | ((with_reducible show wpAny _ _ (call (Value.ref 124) [Value.int _ _, Value.int _ _]) _ _ _); k_dflt (refine' use0 d_sign ?k1 ?k2 ?k3 ?k4 ?kK ?k5 ?kd ?ku ?_; (case k1 => k_asm); (case k2 => k_asm); (case k3 => k_asm); (case k4 => k_asm); (case kK => rfl); (case k5 => k_asm); (case kd => ktr_room); (case ku => ktr_units); k_whole); intro v9_z h9_z tk9_z F9_z N9_z hP9_z; obtain ⟨t9_z, e9_z⟩ := hP9_z; subst e9_z; (try k_sweep)) | ((with_reducible show wpAny _ _ (subscriptTail _ _ (Value.ref _) (Value.int 3 _)) _ _ _); k_dflt (refine' item4_3 ?k1 ?k2 ?_ ?k6; (case k1 => k_asm); (case k2 => with_reducible assumption); (case k6 => with_unfolding_all rfl); k_whole)) | ((with_reducible show wpAny _ _ (subscriptTail _ _ (Value.ref _) (Value.int 2 _)) _ _ _); k_dflt (refine' item4_2 ?k1 ?k2 ?_ ?k6; (case k1 => k_asm); (case k2 => with_reducible assumption); (case k6 => with_unfolding_all rfl); k_whole)) | ((with_reducible show wpAny _ _ (subscriptTail _ _ (Value.ref _) (Value.int 1 _)) _ _ _); k_dflt (refine' item4_1 ?k1 ?k2 ?_ ?k6; (case k1 => k_asm); (case k2 => with_reducible assumption); (case k6 => with_unfolding_all rfl); k_whole)) | ((with_reducible show wpAny _ _ (subscriptTail _ _ (Value.ref _) (Value.int 0 _)) _ _ _); k_dflt (refine' item4_0 ?k1 ?k2 ?_ ?k6; (case k1 => k_asm); (case k2 => with_reducible assumption); (case k6 => with_unfolding_all rfl); k_whole)) | ((with_reducible show wpAny _ _ (subscriptTail _ _ (Value.ref _) (Value.int 1 _)) _ _ _); k_dflt (refine' item2_1 ?k1 ?k2 ?_ ?k6; (case k1 => k_asm); (case k2 => with_reducible assumption); (case k6 => with_unfolding_all rfl); k_whole)) | ((with_reducible show wpAny _ _ (subscriptTail _ _ (Value.ref _) (Value.int 0 _)) _ _ _); k_dflt (refine' item2_0 ?k1 ?k2 ?_ ?k6; (case k1 => k_asm); (case k2 => with_reducible assumption); (case k6 => with_unfolding_all rfl); k_whole)) | ((with_reducible show wpAny _ _ (subscriptTail _ _ (Value.ref _) (Value.int _ _)) _ _ _); k_dflt (refine' item_led ?k1 ?k2 ?k3 ?k4 ?k5 ?_ ?k6; (case k1 => k_asm); (case k2 => with_reducible assumption); (case k3 => omega); (case k4 => omega); (case k5 => assumption); (case k6 => with_unfolding_all rfl); k_whole)) | walk1)) | (k_unfold; (try dsimp only)))
        refine ints_comp (news := (D1, LCg.lst ys1) :: (c5, o5') :: (I2, it2) :: (I, it) :: (c4, o4') :: NN) (n := 5) (fun j => sgnF ((floatsI (colR z) (colG z) (colB z)).getD j 0) ((floatsI (colR y) (colG y) (colB y)).getD j 0)) F7 rfl (by with_unfolding_all rfl) (by with_unfolding_all rfl) (by decide) rfl (by decide) rfl rfl rfl rfl (fun _ => rfl) (by rw [sizeLine_eq]; omega) (by decide) ?src3 ?elt3 ?fin3
        case src3 =>
          iterate 7 (first | (first | ((with_reducible show wpAny _ _ (compareOp CmpOp.NotEq (Value.int _ _) (Value.int _ _)) _ _ _); k_dflt (refine' ne_ints ?h ?_; (case h => assumption))) | ((with_reducible show wpAny _ _ (compareOp CmpOp.NotEq (Value.ref _) (Value.ref _)) _ _ _); k_dflt (refine' ne_lists ?N9 ?q1 ?q2 ?q3 ?q4 ?q5 ?ku ?_; (case N9 => k_asm); (case q1 => k_mem); (case q2 => k_mem); (case q3 => assumption); (case q4 => assumption); (case q5 => rfl); (case ku => units_room))) | ((with_reducible show wpAny _ _ (compareOp CmpOp.NotEq (Value.float _ _) (Value.float _ _)) _ _ _); k_dflt (refine' ne_flt ?h ?_; (case h => assumption))) | ((with_reducible show wpAny _ _ (exec (Stmt.For _ _ _ _ _) _) _ _ _); k_dflt (refine wpAny_For ?_)) | ((with_reducible show wpAny _ _ (call (Value.ref 35) _) _ _ _); k_dflt (refine' use0 (c_cmp ?N9 ?sub ?q1 ?q2 ?q3 ?q4 ?q5 ?q6 ?q7 ?q8 ?q9 ?q10 ?q11) ?k1 ?k2 ?k3 ?k4 ?kK ?k5 ?kd ?ku ?_; (case N9 => k_asm); (case sub => assumption); (case q1 => assumption); (case q2 => assumption); (case q3 => assumption); (case q4 => assumption); (case q5 => assumption); (case q6 => assumption); (case q7 => assumption); (case q8 => assumption); (case q9 => assumption); (case q10 => assumption); (case q11 => assumption); (case k1 => k_asm); (case k2 => k_asm); (case k3 => k_asm); (case k4 => k_asm); (case kK => rfl); (case k5 => k_asm); (case kd => ktr_room); (case ku => ktr_units); k_whole); intro v9_z h9_z tk9_z F9_z N9_z hP9_z; obtain ⟨t9_z, e9_z⟩ := hP9_z; subst e9_z; (try k_sweep)) | ((with_reducible show wpAny _ _ (call (Value.ref 131) _) _ _ _); k_dflt (refine' use0 (c_first ?N9 ?sub ?q1 ?q2 ?q3 ?q4 ?q5 ?q6 ?q7) ?k1 ?k2 ?k3 ?k4 ?kK ?k5 ?kd ?ku ?_; (case N9 => k_asm); (case sub => assumption); (case q1 => assumption); (case q2 => assumption); (case q3 => k_mem); (case q4 => assumption); (case q5 => assumption); (case q6 => assumption); (case q7 => assumption); (case k1 => k_asm); (case k2 => k_asm); (case k3 => k_asm); (case k4 => k_asm); (case kK => rfl); (case k5 => k_asm); (case kd => ktr_room); (case ku => ktr_units); k_whole); intro v9_z h9_z tk9_z F9_z N9_z hP9_z; obtain ⟨t9_z, e9_z⟩ := hP9_z; subst e9_z; (try k_sweep)) | ((with_reducible show wpAny _ _ (call (Value.ref 124) [Value.float _ _, Value.float _ _]) _ _ _); k_dflt (refine' use0 d_signF ?k1 ?k2 ?k3 ?k4 ?kK ?k5 ?kd ?ku ?_; (case k1 => k_asm); (case k2 => k_asm); (case k3 => k_asm); (case k4 => k_asm); (case kK => rfl); (case k5 => k_asm); (case kd => ktr_room); (case ku => ktr_units); k_whole); intro v9_z h9_z tk9_z F9_z N9_z hP9_z; obtain ⟨t9_z, e9_z⟩ := hP9_z; subst e9_z; (try k_sweep)) | ((with_reducible show wpAny _ _ (call (Value.ref 124) [Value.int _ _, Value.int _ _]) _ _ _); k_dflt (refine' use0 d_sign ?k1 ?k2 ?k3 ?k4 ?kK ?k5 ?kd ?ku ?_; (case k1 => k_asm); (case k2 => k_asm); (case k3 => k_asm); (case k4 => k_asm); (case kK => rfl); (case k5 => k_asm); (case kd => ktr_room); (case ku => ktr_units); k_whole); intro v9_z h9_z tk9_z F9_z N9_z hP9_z; obtain ⟨t9_z, e9_z⟩ := hP9_z; subst e9_z; (try k_sweep)) | ((with_reducible show wpAny _ _ (subscriptTail _ _ (Value.ref _) (Value.int 3 _)) _ _ _); k_dflt (refine' item4_3 ?k1 ?k2 ?_ ?k6; (case k1 => k_asm); (case k2 => with_reducible assumption); (case k6 => with_unfolding_all rfl); k_whole)) | ((with_reducible show wpAny _ _ (subscriptTail _ _ (Value.ref _) (Value.int 2 _)) _ _ _); k_dflt (refine' item4_2 ?k1 ?k2 ?_ ?k6; (case k1 => k_asm); (case k2 => with_reducible assumption); (case k6 => with_unfolding_all rfl); k_whole)) | ((with_reducible show wpAny _ _ (subscriptTail _ _ (Value.ref _) (Value.int 1 _)) _ _ _); k_dflt (refine' item4_1 ?k1 ?k2 ?_ ?k6; (case k1 => k_asm); (case k2 => with_reducible assumption); (case k6 => with_unfolding_all rfl); k_whole)) | ((with_reducible show wpAny _ _ (subscriptTail _ _ (Value.ref _) (Value.int 0 _)) _ _ _); k_dflt (refine' item4_0 ?k1 ?k2 ?_ ?k6; (case k1 => k_asm); (case k2 => with_reducible assumption); (case k6 => with_unfolding_all rfl); k_whole)) | ((with_reducible show wpAny _ _ (subscriptTail _ _ (Value.ref _) (Value.int 1 _)) _ _ _); k_dflt (refine' item2_1 ?k1 ?k2 ?_ ?k6; (case k1 => k_asm); (case k2 => with_reducible assumption); (case k6 => with_unfolding_all rfl); k_whole)) | ((with_reducible show wpAny _ _ (subscriptTail _ _ (Value.ref _) (Value.int 0 _)) _ _ _); k_dflt (refine' item2_0 ?k1 ?k2 ?_ ?k6; (case k1 => k_asm); (case k2 => with_reducible assumption); (case k6 => with_unfolding_all rfl); k_whole)) | ((with_reducible show wpAny _ _ (subscriptTail _ _ (Value.ref _) (Value.int _ _)) _ _ _); k_dflt (refine' item_led ?k1 ?k2 ?k3 ?k4 ?k5 ?_ ?k6; (case k1 => k_asm); (case k2 => with_reducible assumption); (case k3 => omega); (case k4 => omega); (case k5 => assumption); (case k6 => with_unfolding_all rfl); k_whole)) | walk1) | (dsimp only; (first | ((with_reducible show wpAny _ _ (compareOp CmpOp.NotEq (Value.int _ _) (Value.int _ _)) _ _ _); k_dflt (refine' ne_ints ?h ?_; (case h => assumption))) | ((with_reducible show wpAny _ _ (compareOp CmpOp.NotEq (Value.ref _) (Value.ref _)) _ _ _); k_dflt (refine' ne_lists ?N9 ?q1 ?q2 ?q3 ?q4 ?q5 ?ku ?_; (case N9 => k_asm); (case q1 => k_mem); (case q2 => k_mem); (case q3 => assumption); (case q4 => assumption); (case q5 => rfl); (case ku => units_room))) | ((with_reducible show wpAny _ _ (compareOp CmpOp.NotEq (Value.float _ _) (Value.float _ _)) _ _ _); k_dflt (refine' ne_flt ?h ?_; (case h => assumption))) | ((with_reducible show wpAny _ _ (exec (Stmt.For _ _ _ _ _) _) _ _ _); k_dflt (refine wpAny_For ?_)) | ((with_reducible show wpAny _ _ (call (Value.ref 35) _) _ _ _); k_dflt (refine' use0 (c_cmp ?N9 ?sub ?q1 ?q2 ?q3 ?q4 ?q5 ?q6 ?q7 ?q8 ?q9 ?q10 ?q11) ?k1 ?k2 ?k3 ?k4 ?kK ?k5 ?kd ?ku ?_; (case N9 => k_asm); (case sub => assumption); (case q1 => assumption); (case q2 => assumption); (case q3 => assumption); (case q4 => assumption); (case q5 => assumption); (case q6 => assumption); (case q7 => assumption); (case q8 => assumption); (case q9 => assumption); (case q10 => assumption); (case q11 => assumption); (case k1 => k_asm); (case k2 => k_asm); (case k3 => k_asm); (case k4 => k_asm); (case kK => rfl); (case k5 => k_asm); (case kd => ktr_room); (case ku => ktr_units); k_whole); intro v9_z h9_z tk9_z F9_z N9_z hP9_z; obtain ⟨t9_z, e9_z⟩ := hP9_z; subst e9_z; (try k_sweep)) | ((with_reducible show wpAny _ _ (call (Value.ref 131) _) _ _ _); k_dflt (refine' use0 (c_first ?N9 ?sub ?q1 ?q2 ?q3 ?q4 ?q5 ?q6 ?q7) ?k1 ?k2 ?k3 ?k4 ?kK ?k5 ?kd ?ku ?_; (case N9 => k_asm); (case sub => assumption); (case q1 => assumption); (case q2 => assumption); (case q3 => k_mem); (case q4 => assumption); (case q5 => assumption); (case q6 => assumption); (case q7 => assumption); (case k1 => k_asm); (case k2 => k_asm); (case k3 => k_asm); (case k4 => k_asm); (case kK => rfl); (case k5 => k_asm); (case kd => ktr_room); (case ku => ktr_units); k_whole); intro v9_z h9_z tk9_z F9_z N9_z hP9_z; obtain ⟨t9_z, e9_z⟩ := hP9_z; subst e9_z; (try k_sweep)) | ((with_reducible show wpAny _ _ (call (Value.ref 124) [Value.float _ _, Value.float _ _]) _ _ _); k_dflt (refine' use0 d_signF ?k1 ?k2 ?k3 ?k4 ?kK ?k5 ?kd ?ku ?_; (case k1 => k_asm); (case k2 => k_asm); (case k3 => k_asm); (case k4 => k_asm); (case kK => rfl); (case k5 => k_asm); (case kd => ktr_room); (case ku => ktr_units); k_whole); intro v9_z h9_z tk9_z F9_z N9_z hP9_z; obtain ⟨t9_z, e9_z⟩ := hP9_z; subst e9_z; (try k_sweep)) | ((with_reducible show wpAny _ _ (call (Value.ref 124) [Value.int _ _, Value.int _ _]) _ _ _); k_dflt (refine' use0 d_sign ?k1 ?k2 ?k3 ?k4 ?kK ?k5 ?kd ?ku ?_; (case k1 => k_asm); (case k2 => k_asm); (case k3 => k_asm); (case k4 => k_asm); (case kK => rfl); (case k5 => k_asm); (case kd => ktr_room); (case ku => ktr_units); k_whole); intro v9_z h9_z tk9_z F9_z N9_z hP9_z; obtain ⟨t9_z, e9_z⟩ := hP9_z; subst e9_z; (try k_sweep)) | ((with_reducible show wpAny _ _ (subscriptTail _ _ (Value.ref _) (Value.int 3 _)) _ _ _); k_dflt (refine' item4_3 ?k1 ?k2 ?_ ?k6; (case k1 => k_asm); (case k2 => with_reducible assumption); (case k6 => with_unfolding_all rfl); k_whole)) | ((with_reducible show wpAny _ _ (subscriptTail _ _ (Value.ref _) (Value.int 2 _)) _ _ _); k_dflt (refine' item4_2 ?k1 ?k2 ?_ ?k6; (case k1 => k_asm); (case k2 => with_reducible assumption); (case k6 => with_unfolding_all rfl); k_whole)) | ((with_reducible show wpAny _ _ (subscriptTail _ _ (Value.ref _) (Value.int 1 _)) _ _ _); k_dflt (refine' item4_1 ?k1 ?k2 ?_ ?k6; (case k1 => k_asm); (case k2 => with_reducible assumption); (case k6 => with_unfolding_all rfl); k_whole)) | ((with_reducible show wpAny _ _ (subscriptTail _ _ (Value.ref _) (Value.int 0 _)) _ _ _); k_dflt (refine' item4_0 ?k1 ?k2 ?_ ?k6; (case k1 => k_asm); (case k2 => with_reducible assumption); (case k6 => with_unfolding_all rfl); k_whole)) | ((with_reducible show wpAny _ _ (subscriptTail _ _ (Value.ref _) (Value.int 1 _)) _ _ _); k_dflt (refine' item2_1 ?k1 ?k2 ?_ ?k6; (case k1 => k_asm); (case k2 => with_reducible assumption); (case k6 => with_unfolding_all rfl); k_whole)) | ((with_reducible show wpAny _ _ (subscriptTail _ _ (Value.ref _) (Value.int 0 _)) _ _ _); k_dflt (refine' item2_0 ?k1 ?k2 ?_ ?k6; (case k1 => k_asm); (case k2 => with_reducible assumption); (case k6 => with_unfolding_all rfl); k_whole)) | ((with_reducible show wpAny _ _ (subscriptTail _ _ (Value.ref _) (Value.int _ _)) _ _ _); k_dflt (refine' item_led ?k1 ?k2 ?k3 ?k4 ?k5 ?_ ?k6; (case k1 => k_asm); (case k2 => with_reducible assumption); (case k3 => omega); (case k4 => omega); (case k5 => assumption); (case k6 => with_unfolding_all rfl); k_whole)) | walk1)) | (k_unfold; (try dsimp only)))
          exact ⟨_, _, _, _, _, _, rfl, rfl, by k_asm, by k_asm, by assumption⟩
        case elt3 =>
          intro j t I3 oI3 C3 oC3 D3 m3 ys3 h3 tk3 E3 hj hC3 hx3 F6 N6
          clear F7 N7 hJ hdx hTp hK hWi hW hws hofI hofI2 hI1 o7
          obtain ⟨t1, q1⟩ := a7 j hj
          obtain ⟨t2, q2⟩ := b7 j hj
          have q1' : vF[((j : Nat) : Int).toNat]? = some (.float ((floatsI (colR z) (colG z) (colB z)).getD j 0) t1) := by rw [Int.toNat_natCast]; exact q1
          have q2' : vF2[((j : Nat) : Int).toNat]? = some (.float ((floatsI (colR y) (colG y) (colB y)).getD j 0) t2) := by rw [Int.toNat_natCast]; exact q2
          clear q1 q2 a6 a7 b6 b7 a2 a3 a4 b2 b3 b4
          generalize hn9 : (I3, oI3) :: (C3, oC3) :: (D3, LCg.lst ys3) :: (D1, LCg.lst ys1) :: (c5, o5') :: (I2, it2) :: (I, it) :: (c4, o4') :: NN = news9 at N6 ⊢
          have up : ∀ q ∈ NN, q ∈ news9 := fun q hq => by rw [← hn9]; simp [hq]
          have zC : (C3, oC3) ∈ news9 := by rw [← hn9]; simp
          have z5 : (c5, o5') ∈ news9 := by rw [← hn9]; simp
          have z4 : (c4, o4') ∈ news9 := by rw [← hn9]; simp
          replace a1 := up _ a1
          replace a5 := up _ a5
          replace b1 := up _ b1
          replace b5 := up _ b5
          clear up hn9
          generalize (floatsI (colR z) (colG z) (colB z)).getD j 0 = fz at *
          generalize (floatsI (colR y) (colG y) (colB y)).getD j 0 = fy at *
          iterate 23 (first | (first | ((with_reducible show wpAny _ _ (compareOp CmpOp.NotEq (Value.int _ _) (Value.int _ _)) _ _ _); k_dflt (refine' ne_ints ?h ?_; (case h => assumption))) | ((with_reducible show wpAny _ _ (compareOp CmpOp.NotEq (Value.ref _) (Value.ref _)) _ _ _); k_dflt (refine' ne_lists ?N9 ?q1 ?q2 ?q3 ?q4 ?q5 ?ku ?_; (case N9 => k_asm); (case q1 => k_mem); (case q2 => k_mem); (case q3 => assumption); (case q4 => assumption); (case q5 => rfl); (case ku => units_room))) | ((with_reducible show wpAny _ _ (compareOp CmpOp.NotEq (Value.float _ _) (Value.float _ _)) _ _ _); k_dflt (refine' ne_flt ?h ?_; (case h => assumption))) | ((with_reducible show wpAny _ _ (exec (Stmt.For _ _ _ _ _) _) _ _ _); k_dflt (refine wpAny_For ?_)) | ((with_reducible show wpAny _ _ (call (Value.ref 35) _) _ _ _); k_dflt (refine' use0 (c_cmp ?N9 ?sub ?q1 ?q2 ?q3 ?q4 ?q5 ?q6 ?q7 ?q8 ?q9 ?q10 ?q11) ?k1 ?k2 ?k3 ?k4 ?kK ?k5 ?kd ?ku ?_; (case N9 => k_asm); (case sub => assumption); (case q1 => assumption); (case q2 => assumption); (case q3 => assumption); (case q4 => assumption); (case q5 => assumption); (case q6 => assumption); (case q7 => assumption); (case q8 => assumption); (case q9 => assumption); (case q10 => assumption); (case q11 => assumption); (case k1 => k_asm); (case k2 => k_asm); (case k3 => k_asm); (case k4 => k_asm); (case kK => rfl); (case k5 => k_asm); (case kd => ktr_room); (case ku => ktr_units); k_whole); intro v9_z h9_z tk9_z F9_z N9_z hP9_z; obtain ⟨t9_z, e9_z⟩ := hP9_z; subst e9_z; (try k_sweep)) | ((with_reducible show wpAny _ _ (call (Value.ref 131) _) _ _ _); k_dflt (refine' use0 (c_first ?N9 ?sub ?q1 ?q2 ?q3 ?q4 ?q5 ?q6 ?q7) ?k1 ?k2 ?k3 ?k4 ?kK ?k5 ?kd ?ku ?_; (case N9 => k_asm); (case sub => assumption); (case q1 => assumption); (case q2 => assumption); (case q3 => k_mem); (case q4 => assumption); (case q5 => assumption); (case q6 => assumption); (case q7 => assumption); (case k1 => k_asm); (case k2 => k_asm); (case k3 => k_asm); (case k4 => k_asm); (case kK => rfl); (case k5 => k_asm); (case kd => ktr_room); (case ku => ktr_units); k_whole); intro v9_z h9_z tk9_z F9_z N9_z hP9_z; obtain ⟨t9_z, e9_z⟩ := hP9_z; subst e9_z; (try k_sweep)) | ((with_reducible show wpAny _ _ (call (Value.ref 124) [Value.float _ _, Value.float _ _]) _ _ _); k_dflt (refine' use0 d_signF ?k1 ?k2 ?k3 ?k4 ?kK ?k5 ?kd ?ku ?_; (case k1 => k_asm); (case k2 => k_asm); (case k3 => k_asm); (case k4 => k_asm); (case kK => rfl); (case k5 => k_asm); (case kd => ktr_room); (case ku => ktr_units); k_whole); intro v9_z h9_z tk9_z F9_z N9_z hP9_z; obtain ⟨t9_z, e9_z⟩ := hP9_z; subst e9_z; (try k_sweep)) | ((with_reducible show wpAny _ _ (call (Value.ref 124) [Value.int _ _, Value.int _ _]) _ _ _); k_dflt (refine' use0 d_sign ?k1 ?k2 ?k3 ?k4 ?kK ?k5 ?kd ?ku ?_; (case k1 => k_asm); (case k2 => k_asm); (case k3 => k_asm); (case k4 => k_asm); (case kK => rfl); (case k5 => k_asm); (case kd => ktr_room); (case ku => ktr_units); k_whole); intro v9_z h9_z tk9_z F9_z N9_z hP9_z; obtain ⟨t9_z, e9_z⟩ := hP9_z; subst e9_z; (try k_sweep)) | ((with_reducible show wpAny _ _ (subscriptTail _ _ (Value.ref _) (Value.int 3 _)) _ _ _); k_dflt (refine' item4_3 ?k1 ?k2 ?_ ?k6; (case k1 => k_asm); (case k2 => with_reducible assumption); (case k6 => with_unfolding_all rfl); k_whole)) | ((with_reducible show wpAny _ _ (subscriptTail _ _ (Value.ref _) (Value.int 2 _)) _ _ _); k_dflt (refine' item4_2 ?k1 ?k2 ?_ ?k6; (case k1 => k_asm); (case k2 => with_reducible assumption); (case k6 => with_unfolding_all rfl); k_whole)) | ((with_reducible show wpAny _ _ (subscriptTail _ _ (Value.ref _) (Value.int 1 _)) _ _ _); k_dflt (refine' item4_1 ?k1 ?k2 ?_ ?k6; (case k1 => k_asm); (case k2 => with_reducible assumption); (case k6 => with_unfolding_all rfl); k_whole)) | ((with_reducible show wpAny _ _ (subscriptTail _ _ (Value.ref _) (Value.int 0 _)) _ _ _); k_dflt (refine' item4_0 ?k1 ?k2 ?_ ?k6; (case k1 => k_asm); (case k2 => with_reducible assumption); (case k6 => with_unfolding_all rfl); k_whole)) | ((with_reducible show wpAny _ _ (subscriptTail _ _ (Value.ref _) (Value.int 1 _)) _ _ _); k_dflt (refine' item2_1 ?k1 ?k2 ?_ ?k6; (case k1 => k_asm); (case k2 => with_reducible assumption); (case k6 => with_unfolding_all rfl); k_whole)) | ((with_reducible show wpAny _ _ (subscriptTail _ _ (Value.ref _) (Value.int 0 _)) _ _ _); k_dflt (refine' item2_0 ?k1 ?k2 ?_ ?k6; (case k1 => k_asm); (case k2 => with_reducible assumption); (case k6 => with_unfolding_all rfl); k_whole)) | ((with_reducible show wpAny _ _ (subscriptTail _ _ (Value.ref _) (Value.int _ _)) _ _ _); k_dflt (refine' item_led ?k1 ?k2 ?k3 ?k4 ?k5 ?_ ?k6; (case k1 => k_asm); (case k2 => with_reducible assumption); (case k3 => omega); (case k4 => omega); (case k5 => assumption); (case k6 => with_unfolding_all rfl); k_whole)) | walk1) | (dsimp only; (first | ((with_reducible show wpAny _ _ (compareOp CmpOp.NotEq (Value.int _ _) (Value.int _ _)) _ _ _); k_dflt (refine' ne_ints ?h ?_; (case h => assumption))) | ((with_reducible show wpAny _ _ (compareOp CmpOp.NotEq (Value.ref _) (Value.ref _)) _ _ _); k_dflt (refine' ne_lists ?N9 ?q1 ?q2 ?q3 ?q4 ?q5 ?ku ?_; (case N9 => k_asm); (case q1 => k_mem); (case q2 => k_mem); (case q3 => assumption); (case q4 => assumption); (case q5 => rfl); (case ku => units_room))) | ((with_reducible show wpAny _ _ (compareOp CmpOp.NotEq (Value.float _ _) (Value.float _ _)) _ _ _); k_dflt (refine' ne_flt ?h ?_; (case h => assumption))) | ((with_reducible show wpAny _ _ (exec (Stmt.For _ _ _ _ _) _) _ _ _); k_dflt (refine wpAny_For ?_)) | ((with_reducible show wpAny _ _ (call (Value.ref 35) _) _ _ _); k_dflt (refine' use0 (c_cmp ?N9 ?sub ?q1 ?q2 ?q3 ?q4 ?q5 ?q6 ?q7 ?q8 ?q9 ?q10 ?q11) ?k1 ?k2 ?k3 ?k4 ?kK ?k5 ?kd ?ku ?_; (case N9 => k_asm); (case sub => assumption); (case q1 => assumption); (case q2 => assumption); (case q3 => assumption); (case q4 => assumption); (case q5 => assumption); (case q6 => assumption); (case q7 => assumption); (case q8 => assumption); (case q9 => assumption); (case q10 => assumption); (case q11 => assumption); (case k1 => k_asm); (case k2 => k_asm); (case k3 => k_asm); (case k4 => k_asm); (case kK => rfl); (case k5 => k_asm); (case kd => ktr_room); (case ku => ktr_units); k_whole); intro v9_z h9_z tk9_z F9_z N9_z hP9_z; obtain ⟨t9_z, e9_z⟩ := hP9_z; subst e9_z; (try k_sweep)) | ((with_reducible show wpAny _ _ (call (Value.ref 131) _) _ _ _); k_dflt (refine' use0 (c_first ?N9 ?sub ?q1 ?q2 ?q3 ?q4 ?q5 ?q6 ?q7) ?k1 ?k2 ?k3 ?k4 ?kK ?k5 ?kd ?ku ?_; (case N9 => k_asm); (case sub => assumption); (case q1 => assumption); (case q2 => assumption); (case q3 => k_mem); (case q4 => assumption); (case q5 => assumption); (case q6 => assumption); (case q7 => assumption); (case k1 => k_asm); (case k2 => k_asm); (case k3 => k_asm); (case k4 => k_asm); (case kK => rfl); (case k5 => k_asm); (case kd => ktr_room); (case ku => ktr_units); k_whole); intro v9_z h9_z tk9_z F9_z N9_z hP9_z; obtain ⟨t9_z, e9_z⟩ := hP9_z; subst e9_z; (try k_sweep)) | ((with_reducible show wpAny _ _ (call (Value.ref 124) [Value.float _ _, Value.float _ _]) _ _ _); k_dflt (refine' use0 d_signF ?k1 ?k2 ?k3 ?k4 ?kK ?k5 ?kd ?ku ?_; (case k1 => k_asm); (case k2 => k_asm); (case k3 => k_asm); (case k4 => k_asm); (case kK => rfl); (case k5 => k_asm); (case kd => ktr_room); (case ku => ktr_units); k_whole); intro v9_z h9_z tk9_z F9_z N9_z hP9_z; obtain ⟨t9_z, e9_z⟩ := hP9_z; subst e9_z; (try k_sweep)) | ((with_reducible show wpAny _ _ (call (Value.ref 124) [Value.int _ _, Value.int _ _]) _ _ _); k_dflt (refine' use0 d_sign ?k1 ?k2 ?k3 ?k4 ?kK ?k5 ?kd ?ku ?_; (case k1 => k_asm); (case k2 => k_asm); (case k3 => k_asm); (case k4 => k_asm); (case kK => rfl); (case k5 => k_asm); (case kd => ktr_room); (case ku => ktr_units); k_whole); intro v9_z h9_z tk9_z F9_z N9_z hP9_z; obtain ⟨t9_z, e9_z⟩ := hP9_z; subst e9_z; (try k_sweep)) | ((with_reducible show wpAny _ _ (subscriptTail _ _ (Value.ref _) (Value.int 3 _)) _ _ _); k_dflt (refine' item4_3 ?k1 ?k2 ?_ ?k6; (case k1 => k_asm); (case k2 => with_reducible assumption); (case k6 => with_unfolding_all rfl); k_whole)) | ((with_reducible show wpAny _ _ (subscriptTail _ _ (Value.ref _) (Value.int 2 _)) _ _ _); k_dflt (refine' item4_2 ?k1 ?k2 ?_ ?k6; (case k1 => k_asm); (case k2 => with_reducible assumption); (case k6 => with_unfolding_all rfl); k_whole)) | ((with_reducible show wpAny _ _ (subscriptTail _ _ (Value.ref _) (Value.int 1 _)) _ _ _); k_dflt (refine' item4_1 ?k1 ?k2 ?_ ?k6; (case k1 => k_asm); (case k2 => with_reducible assumption); (case k6 => with_unfolding_all rfl); k_whole)) | ((with_reducible show wpAny _ _ (subscriptTail _ _ (Value.ref _) (Value.int 0 _)) _ _ _); k_dflt (refine' item4_0 ?k1 ?k2 ?_ ?k6; (case k1 => k_asm); (case k2 => with_reducible assumption); (case k6 => with_unfolding_all rfl); k_whole)) | ((with_reducible show wpAny _ _ (subscriptTail _ _ (Value.ref _) (Value.int 1 _)) _ _ _); k_dflt (refine' item2_1 ?k1 ?k2 ?_ ?k6; (case k1 => k_asm); (case k2 => with_reducible assumption); (case k6 => with_unfolding_all rfl); k_whole)) | ((with_reducible show wpAny _ _ (subscriptTail _ _ (Value.ref _) (Value.int 0 _)) _ _ _); k_dflt (refine' item2_0 ?k1 ?k2 ?_ ?k6; (case k1 => k_asm); (case k2 => with_reducible assumption); (case k6 => with_unfolding_all rfl); k_whole)) | ((with_reducible show wpAny _ _ (subscriptTail _ _ (Value.ref _) (Value.int _ _)) _ _ _); k_dflt (refine' item_led ?k1 ?k2 ?k3 ?k4 ?k5 ?_ ?k6; (case k1 => k_asm); (case k2 => with_reducible assumption); (case k3 => omega); (case k4 => omega); (case k5 => assumption); (case k6 => with_unfolding_all rfl); k_whole)) | walk1)) | (k_unfold; (try dsimp only)))
          exact ⟨_, _, _, rfl, rfl, by k_asm, by k_asm⟩
        case fin3 =>
          intro ys2 D2 h6 tk6 hI2 F6 N6 o6
          clear F7 N7 a6 a7 b6 b7 a4 a5 b4 b5 o7 o6
          have hP : (List.range 5).map (fun j => sgnF ((floatsI (colR z) (colG z) (colB z)).getD j 0) ((floatsI (colR y) (colG y) (colB y)).getD j 0)) = plainI (colR z) (colG z) (colB z) (colR y) (colG y) (colB y) := told_law z y
          have hP1 : (List.range 5).map (fun j => sgnI (((sharesI (colR z) (colG z) (colB z)).getD j (0, 0)).1 * ((sharesI (colR y) (colG y) (colB y)).getD j (0, 0)).2) (((sharesI (colR y) (colG y) (colB y)).getD j (0, 0)).1 * ((sharesI (colR z) (colG z) (colB z)).getD j (0, 0)).2)) = plainI (colR z) (colG z) (colB z) (colR y) (colG y) (colB y) := rfl
          rw [hP] at hI2
          rw [hP1] at hI1
          clear hP hP1
          have hlaw := rows_law (col_ok z) (col_ok y) ws hws
          have hPl : (plainI (colR z) (colG z) (colB z) (colR y) (colG y) (colB y)).length = 5 := rfl
          have hPb := plain_b (colR z) (colG z) (colB z) (colR y) (colG y) (colB y)
          have hl1 := row_len (col_ok z)
          have hl2 := row_len (col_ok y)
          generalize plainI (colR z) (colG z) (colB z) (colR y) (colG y) (colB y) = PP at *
          generalize rowI (colR z) (colG z) (colB z) = RR1 at *
          generalize rowI (colR y) (colG y) (colB y) = RR2 at *
          have back : ∀ q ∈ (I2, it2) :: (c5, o5') :: (I, it) :: (c4, o4') :: NN, q ∈ (D2, LCg.lst ys2) :: (D1, LCg.lst ys1) :: (c5, o5') :: (I2, it2) :: (I, it) :: (c4, o4') :: NN := fun q hq => .tail _ (.tail _ (by
            rcases List.mem_cons.mp hq with rfl | hq
            · exact .tail _ (.head _)
            · rcases List.mem_cons.mp hq with rfl | hq
              · exact .head _
              · exact .tail _ (.tail _ hq)))
          generalize hn9 : (D2, LCg.lst ys2) :: (D1, LCg.lst ys1) :: (c5, o5') :: (I2, it2) :: (I, it) :: (c4, o4') :: NN = news9 at N6 back
          have up : ∀ q ∈ NN, q ∈ news9 := fun q hq => by rw [← hn9]; simp [hq]
          have z5 : (c5, o5') ∈ news9 := by rw [← hn9]; simp
          have z4 : (c4, o4') ∈ news9 := by rw [← hn9]; simp
          have zD1 : (D1, W.listOf ys1.toArray ys1.length) ∈ news9 := by rw [← hn9]; simp
          have zD2 : (D2, W.listOf ys2.toArray ys2.length) ∈ news9 := by rw [← hn9]; simp
          replace a1 := up _ a1
          replace b1 := up _ b1
          have uJ := up _ hJ
          have udx := up _ hdx
          have iP1 : IntsAre ys1.toArray.toList PP := hI1
          have iP2 : IntsAre ys2.toArray.toList PP := hI2
          clear hn9 hI1 hI2
          iterate 50 (first | (first | ((with_reducible show wpAny _ _ (compareOp CmpOp.NotEq (Value.int _ _) (Value.int _ _)) _ _ _); k_dflt (refine' ne_ints ?h ?_; (case h => assumption))) | ((with_reducible show wpAny _ _ (compareOp CmpOp.NotEq (Value.ref _) (Value.ref _)) _ _ _); k_dflt (refine' ne_lists ?N9 ?q1 ?q2 ?q3 ?q4 ?q5 ?ku ?_; (case N9 => k_asm); (case q1 => k_mem); (case q2 => k_mem); (case q3 => assumption); (case q4 => assumption); (case q5 => rfl); (case ku => units_room))) | ((with_reducible show wpAny _ _ (compareOp CmpOp.NotEq (Value.float _ _) (Value.float _ _)) _ _ _); k_dflt (refine' ne_flt ?h ?_; (case h => assumption))) | ((with_reducible show wpAny _ _ (exec (Stmt.For _ _ _ _ _) _) _ _ _); k_dflt (refine wpAny_For ?_)) | ((with_reducible show wpAny _ _ (call (Value.ref 35) _) _ _ _); k_dflt (refine' use0 (c_cmp ?N9 ?sub ?q1 ?q2 ?q3 ?q4 ?q5 ?q6 ?q7 ?q8 ?q9 ?q10 ?q11) ?k1 ?k2 ?k3 ?k4 ?kK ?k5 ?kd ?ku ?_; (case N9 => k_asm); (case sub => assumption); (case q1 => assumption); (case q2 => assumption); (case q3 => assumption); (case q4 => assumption); (case q5 => assumption); (case q6 => assumption); (case q7 => assumption); (case q8 => assumption); (case q9 => assumption); (case q10 => assumption); (case q11 => assumption); (case k1 => k_asm); (case k2 => k_asm); (case k3 => k_asm); (case k4 => k_asm); (case kK => rfl); (case k5 => k_asm); (case kd => ktr_room); (case ku => ktr_units); k_whole); intro v9_z h9_z tk9_z F9_z N9_z hP9_z; obtain ⟨t9_z, e9_z⟩ := hP9_z; subst e9_z; (try k_sweep)) | ((with_reducible show wpAny _ _ (call (Value.ref 131) _) _ _ _); k_dflt (refine' use0 (c_first ?N9 ?sub ?q1 ?q2 ?q3 ?q4 ?q5 ?q6 ?q7) ?k1 ?k2 ?k3 ?k4 ?kK ?k5 ?kd ?ku ?_; (case N9 => k_asm); (case sub => assumption); (case q1 => assumption); (case q2 => assumption); (case q3 => k_mem); (case q4 => assumption); (case q5 => assumption); (case q6 => assumption); (case q7 => assumption); (case k1 => k_asm); (case k2 => k_asm); (case k3 => k_asm); (case k4 => k_asm); (case kK => rfl); (case k5 => k_asm); (case kd => ktr_room); (case ku => ktr_units); k_whole); intro v9_z h9_z tk9_z F9_z N9_z hP9_z; obtain ⟨t9_z, e9_z⟩ := hP9_z; subst e9_z; (try k_sweep)) | ((with_reducible show wpAny _ _ (call (Value.ref 124) [Value.float _ _, Value.float _ _]) _ _ _); k_dflt (refine' use0 d_signF ?k1 ?k2 ?k3 ?k4 ?kK ?k5 ?kd ?ku ?_; (case k1 => k_asm); (case k2 => k_asm); (case k3 => k_asm); (case k4 => k_asm); (case kK => rfl); (case k5 => k_asm); (case kd => ktr_room); (case ku => ktr_units); k_whole); intro v9_z h9_z tk9_z F9_z N9_z hP9_z; obtain ⟨t9_z, e9_z⟩ := hP9_z; subst e9_z; (try k_sweep)) | ((with_reducible show wpAny _ _ (call (Value.ref 124) [Value.int _ _, Value.int _ _]) _ _ _); k_dflt (refine' use0 d_sign ?k1 ?k2 ?k3 ?k4 ?kK ?k5 ?kd ?ku ?_; (case k1 => k_asm); (case k2 => k_asm); (case k3 => k_asm); (case k4 => k_asm); (case kK => rfl); (case k5 => k_asm); (case kd => ktr_room); (case ku => ktr_units); k_whole); intro v9_z h9_z tk9_z F9_z N9_z hP9_z; obtain ⟨t9_z, e9_z⟩ := hP9_z; subst e9_z; (try k_sweep)) | ((with_reducible show wpAny _ _ (subscriptTail _ _ (Value.ref _) (Value.int 3 _)) _ _ _); k_dflt (refine' item4_3 ?k1 ?k2 ?_ ?k6; (case k1 => k_asm); (case k2 => with_reducible assumption); (case k6 => with_unfolding_all rfl); k_whole)) | ((with_reducible show wpAny _ _ (subscriptTail _ _ (Value.ref _) (Value.int 2 _)) _ _ _); k_dflt (refine' item4_2 ?k1 ?k2 ?_ ?k6; (case k1 => k_asm); (case k2 => with_reducible assumption); (case k6 => with_unfolding_all rfl); k_whole)) | ((with_reducible show wpAny _ _ (subscriptTail _ _ (Value.ref _) (Value.int 1 _)) _ _ _); k_dflt (refine' item4_1 ?k1 ?k2 ?_ ?k6; (case k1 => k_asm); (case k2 => with_reducible assumption); (case k6 => with_unfolding_all rfl); k_whole)) | ((with_reducible show wpAny _ _ (subscriptTail _ _ (Value.ref _) (Value.int 0 _)) _ _ _); k_dflt (refine' item4_0 ?k1 ?k2 ?_ ?k6; (case k1 => k_asm); (case k2 => with_reducible assumption); (case k6 => with_unfolding_all rfl); k_whole)) | ((with_reducible show wpAny _ _ (subscriptTail _ _ (Value.ref _) (Value.int 1 _)) _ _ _); k_dflt (refine' item2_1 ?k1 ?k2 ?_ ?k6; (case k1 => k_asm); (case k2 => with_reducible assumption); (case k6 => with_unfolding_all rfl); k_whole)) | ((with_reducible show wpAny _ _ (subscriptTail _ _ (Value.ref _) (Value.int 0 _)) _ _ _); k_dflt (refine' item2_0 ?k1 ?k2 ?_ ?k6; (case k1 => k_asm); (case k2 => with_reducible assumption); (case k6 => with_unfolding_all rfl); k_whole)) | ((with_reducible show wpAny _ _ (subscriptTail _ _ (Value.ref _) (Value.int _ _)) _ _ _); k_dflt (refine' item_led ?k1 ?k2 ?k3 ?k4 ?k5 ?_ ?k6; (case k1 => k_asm); (case k2 => with_reducible assumption); (case k3 => omega); (case k4 => omega); (case k5 => assumption); (case k6 => with_unfolding_all rfl); k_whole)) | walk1) | (dsimp only; (first | ((with_reducible show wpAny _ _ (compareOp CmpOp.NotEq (Value.int _ _) (Value.int _ _)) _ _ _); k_dflt (refine' ne_ints ?h ?_; (case h => assumption))) | ((with_reducible show wpAny _ _ (compareOp CmpOp.NotEq (Value.ref _) (Value.ref _)) _ _ _); k_dflt (refine' ne_lists ?N9 ?q1 ?q2 ?q3 ?q4 ?q5 ?ku ?_; (case N9 => k_asm); (case q1 => k_mem); (case q2 => k_mem); (case q3 => assumption); (case q4 => assumption); (case q5 => rfl); (case ku => units_room))) | ((with_reducible show wpAny _ _ (compareOp CmpOp.NotEq (Value.float _ _) (Value.float _ _)) _ _ _); k_dflt (refine' ne_flt ?h ?_; (case h => assumption))) | ((with_reducible show wpAny _ _ (exec (Stmt.For _ _ _ _ _) _) _ _ _); k_dflt (refine wpAny_For ?_)) | ((with_reducible show wpAny _ _ (call (Value.ref 35) _) _ _ _); k_dflt (refine' use0 (c_cmp ?N9 ?sub ?q1 ?q2 ?q3 ?q4 ?q5 ?q6 ?q7 ?q8 ?q9 ?q10 ?q11) ?k1 ?k2 ?k3 ?k4 ?kK ?k5 ?kd ?ku ?_; (case N9 => k_asm); (case sub => assumption); (case q1 => assumption); (case q2 => assumption); (case q3 => assumption); (case q4 => assumption); (case q5 => assumption); (case q6 => assumption); (case q7 => assumption); (case q8 => assumption); (case q9 => assumption); (case q10 => assumption); (case q11 => assumption); (case k1 => k_asm); (case k2 => k_asm); (case k3 => k_asm); (case k4 => k_asm); (case kK => rfl); (case k5 => k_asm); (case kd => ktr_room); (case ku => ktr_units); k_whole); intro v9_z h9_z tk9_z F9_z N9_z hP9_z; obtain ⟨t9_z, e9_z⟩ := hP9_z; subst e9_z; (try k_sweep)) | ((with_reducible show wpAny _ _ (call (Value.ref 131) _) _ _ _); k_dflt (refine' use0 (c_first ?N9 ?sub ?q1 ?q2 ?q3 ?q4 ?q5 ?q6 ?q7) ?k1 ?k2 ?k3 ?k4 ?kK ?k5 ?kd ?ku ?_; (case N9 => k_asm); (case sub => assumption); (case q1 => assumption); (case q2 => assumption); (case q3 => k_mem); (case q4 => assumption); (case q5 => assumption); (case q6 => assumption); (case q7 => assumption); (case k1 => k_asm); (case k2 => k_asm); (case k3 => k_asm); (case k4 => k_asm); (case kK => rfl); (case k5 => k_asm); (case kd => ktr_room); (case ku => ktr_units); k_whole); intro v9_z h9_z tk9_z F9_z N9_z hP9_z; obtain ⟨t9_z, e9_z⟩ := hP9_z; subst e9_z; (try k_sweep)) | ((with_reducible show wpAny _ _ (call (Value.ref 124) [Value.float _ _, Value.float _ _]) _ _ _); k_dflt (refine' use0 d_signF ?k1 ?k2 ?k3 ?k4 ?kK ?k5 ?kd ?ku ?_; (case k1 => k_asm); (case k2 => k_asm); (case k3 => k_asm); (case k4 => k_asm); (case kK => rfl); (case k5 => k_asm); (case kd => ktr_room); (case ku => ktr_units); k_whole); intro v9_z h9_z tk9_z F9_z N9_z hP9_z; obtain ⟨t9_z, e9_z⟩ := hP9_z; subst e9_z; (try k_sweep)) | ((with_reducible show wpAny _ _ (call (Value.ref 124) [Value.int _ _, Value.int _ _]) _ _ _); k_dflt (refine' use0 d_sign ?k1 ?k2 ?k3 ?k4 ?kK ?k5 ?kd ?ku ?_; (case k1 => k_asm); (case k2 => k_asm); (case k3 => k_asm); (case k4 => k_asm); (case kK => rfl); (case k5 => k_asm); (case kd => ktr_room); (case ku => ktr_units); k_whole); intro v9_z h9_z tk9_z F9_z N9_z hP9_z; obtain ⟨t9_z, e9_z⟩ := hP9_z; subst e9_z; (try k_sweep)) | ((with_reducible show wpAny _ _ (subscriptTail _ _ (Value.ref _) (Value.int 3 _)) _ _ _); k_dflt (refine' item4_3 ?k1 ?k2 ?_ ?k6; (case k1 => k_asm); (case k2 => with_reducible assumption); (case k6 => with_unfolding_all rfl); k_whole)) | ((with_reducible show wpAny _ _ (subscriptTail _ _ (Value.ref _) (Value.int 2 _)) _ _ _); k_dflt (refine' item4_2 ?k1 ?k2 ?_ ?k6; (case k1 => k_asm); (case k2 => with_reducible assumption); (case k6 => with_unfolding_all rfl); k_whole)) | ((with_reducible show wpAny _ _ (subscriptTail _ _ (Value.ref _) (Value.int 1 _)) _ _ _); k_dflt (refine' item4_1 ?k1 ?k2 ?_ ?k6; (case k1 => k_asm); (case k2 => with_reducible assumption); (case k6 => with_unfolding_all rfl); k_whole)) | ((with_reducible show wpAny _ _ (subscriptTail _ _ (Value.ref _) (Value.int 0 _)) _ _ _); k_dflt (refine' item4_0 ?k1 ?k2 ?_ ?k6; (case k1 => k_asm); (case k2 => with_reducible assumption); (case k6 => with_unfolding_all rfl); k_whole)) | ((with_reducible show wpAny _ _ (subscriptTail _ _ (Value.ref _) (Value.int 1 _)) _ _ _); k_dflt (refine' item2_1 ?k1 ?k2 ?_ ?k6; (case k1 => k_asm); (case k2 => with_reducible assumption); (case k6 => with_unfolding_all rfl); k_whole)) | ((with_reducible show wpAny _ _ (subscriptTail _ _ (Value.ref _) (Value.int 0 _)) _ _ _); k_dflt (refine' item2_0 ?k1 ?k2 ?_ ?k6; (case k1 => k_asm); (case k2 => with_reducible assumption); (case k6 => with_unfolding_all rfl); k_whole)) | ((with_reducible show wpAny _ _ (subscriptTail _ _ (Value.ref _) (Value.int _ _)) _ _ _); k_dflt (refine' item_led ?k1 ?k2 ?k3 ?k4 ?k5 ?_ ?k6; (case k1 => k_asm); (case k2 => with_reducible assumption); (case k3 => omega); (case k4 => omega); (case k5 => assumption); (case k6 => with_unfolding_all rfl); k_whole)) | walk1)) | (k_unfold; (try dsimp only)))
          rename News _ _ _ _ => N5
          rename Fr _ _ _ _ => F5
          refine ⟨_, _, _, (c5, o5') :: (I, it) :: (c4, o4') :: NN, rfl, F5, ?_, ?_, ⟨rfl, rfl, rfl⟩, o5', _, rfl, h5'⟩
          · exact fun q hq => N5 q (back q hq)
          · intro q hq
            rcases List.mem_cons.mp hq with rfl | hq
            · exact hofI2 (c5, o5) (.head _)
            · exact hofI2 q (.tail _ hq)
    case fin2 =>
      clear F9 N11 h5
      rintro m3 news h8 tk8 ⟨hm3, o5, v5, rfl, h5⟩ F8 N8
      iterate 1 (first | (first | ((with_reducible show wpAny _ _ (compareOp CmpOp.NotEq (Value.int _ _) (Value.int _ _)) _ _ _); k_dflt (refine' ne_ints ?h ?_; (case h => assumption))) | ((with_reducible show wpAny _ _ (compareOp CmpOp.NotEq (Value.ref _) (Value.ref _)) _ _ _); k_dflt (refine' ne_lists ?N9 ?q1 ?q2 ?q3 ?q4 ?q5 ?ku ?_; (case N9 => k_asm); (case q1 => k_mem); (case q2 => k_mem); (case q3 => assumption); (case q4 => assumption); (case q5 => rfl); (case ku => units_room))) | ((with_reducible show wpAny _ _ (compareOp CmpOp.NotEq (Value.float _ _) (Value.float _ _)) _ _ _); k_dflt (refine' ne_flt ?h ?_; (case h => assumption))) | ((with_reducible show wpAny _ _ (exec (Stmt.For _ _ _ _ _) _) _ _ _); k_dflt (refine wpAny_For ?_)) | ((with_reducible show wpAny _ _ (call (Value.ref 35) _) _ _ _); k_dflt (refine' use0 (c_cmp ?N9 ?sub ?q1 ?q2 ?q3 ?q4 ?q5 ?q6 ?q7 ?q8 ?q9 ?q10 ?q11) ?k1 ?k2 ?k3 ?k4 ?kK ?k5 ?kd ?ku ?_; (case N9 => k_asm); (case sub => assumption); (case q1 => assumption); (case q2 => assumption); (case q3 => assumption); (case q4 => assumption); (case q5 => assumption); (case q6 => assumption); (case q7 => assumption); (case q8 => assumption); (case q9 => assumption); (case q10 => assumption); (case q11 => assumption); (case k1 => k_asm); (case k2 => k_asm); (case k3 => k_asm); (case k4 => k_asm); (case kK => rfl); (case k5 => k_asm); (case kd => ktr_room); (case ku => ktr_units); k_whole); intro v9_z h9_z tk9_z F9_z N9_z hP9_z; obtain ⟨t9_z, e9_z⟩ := hP9_z; subst e9_z; (try k_sweep)) | ((with_reducible show wpAny _ _ (call (Value.ref 131) _) _ _ _); k_dflt (refine' use0 (c_first ?N9 ?sub ?q1 ?q2 ?q3 ?q4 ?q5 ?q6 ?q7) ?k1 ?k2 ?k3 ?k4 ?kK ?k5 ?kd ?ku ?_; (case N9 => k_asm); (case sub => assumption); (case q1 => assumption); (case q2 => assumption); (case q3 => k_mem); (case q4 => assumption); (case q5 => assumption); (case q6 => assumption); (case q7 => assumption); (case k1 => k_asm); (case k2 => k_asm); (case k3 => k_asm); (case k4 => k_asm); (case kK => rfl); (case k5 => k_asm); (case kd => ktr_room); (case ku => ktr_units); k_whole); intro v9_z h9_z tk9_z F9_z N9_z hP9_z; obtain ⟨t9_z, e9_z⟩ := hP9_z; subst e9_z; (try k_sweep)) | ((with_reducible show wpAny _ _ (call (Value.ref 124) [Value.float _ _, Value.float _ _]) _ _ _); k_dflt (refine' use0 d_signF ?k1 ?k2 ?k3 ?k4 ?kK ?k5 ?kd ?ku ?_; (case k1 => k_asm); (case k2 => k_asm); (case k3 => k_asm); (case k4 => k_asm); (case kK => rfl); (case k5 => k_asm); (case kd => ktr_room); (case ku => ktr_units); k_whole); intro v9_z h9_z tk9_z F9_z N9_z hP9_z; obtain ⟨t9_z, e9_z⟩ := hP9_z; subst e9_z; (try k_sweep)) | ((with_reducible show wpAny _ _ (call (Value.ref 124) [Value.int _ _, Value.int _ _]) _ _ _); k_dflt (refine' use0 d_sign ?k1 ?k2 ?k3 ?k4 ?kK ?k5 ?kd ?ku ?_; (case k1 => k_asm); (case k2 => k_asm); (case k3 => k_asm); (case k4 => k_asm); (case kK => rfl); (case k5 => k_asm); (case kd => ktr_room); (case ku => ktr_units); k_whole); intro v9_z h9_z tk9_z F9_z N9_z hP9_z; obtain ⟨t9_z, e9_z⟩ := hP9_z; subst e9_z; (try k_sweep)) | ((with_reducible show wpAny _ _ (subscriptTail _ _ (Value.ref _) (Value.int 3 _)) _ _ _); k_dflt (refine' item4_3 ?k1 ?k2 ?_ ?k6; (case k1 => k_asm); (case k2 => with_reducible assumption); (case k6 => with_unfolding_all rfl); k_whole)) | ((with_reducible show wpAny _ _ (subscriptTail _ _ (Value.ref _) (Value.int 2 _)) _ _ _); k_dflt (refine' item4_2 ?k1 ?k2 ?_ ?k6; (case k1 => k_asm); (case k2 => with_reducible assumption); (case k6 => with_unfolding_all rfl); k_whole)) | ((with_reducible show wpAny _ _ (subscriptTail _ _ (Value.ref _) (Value.int 1 _)) _ _ _); k_dflt (refine' item4_1 ?k1 ?k2 ?_ ?k6; (case k1 => k_asm); (case k2 => with_reducible assumption); (case k6 => with_unfolding_all rfl); k_whole)) | ((with_reducible show wpAny _ _ (subscriptTail _ _ (Value.ref _) (Value.int 0 _)) _ _ _); k_dflt (refine' item4_0 ?k1 ?k2 ?_ ?k6; (case k1 => k_asm); (case k2 => with_reducible assumption); (case k6 => with_unfolding_all rfl); k_whole)) | ((with_reducible show wpAny _ _ (subscriptTail _ _ (Value.ref _) (Value.int 1 _)) _ _ _); k_dflt (refine' item2_1 ?k1 ?k2 ?_ ?k6; (case k1 => k_asm); (case k2 => with_reducible assumption); (case k6 => with_unfolding_all rfl); k_whole)) | ((with_reducible show wpAny _ _ (subscriptTail _ _ (Value.ref _) (Value.int 0 _)) _ _ _); k_dflt (refine' item2_0 ?k1 ?k2 ?_ ?k6; (case k1 => k_asm); (case k2 => with_reducible assumption); (case k6 => with_unfolding_all rfl); k_whole)) | ((with_reducible show wpAny _ _ (subscriptTail _ _ (Value.ref _) (Value.int _ _)) _ _ _); k_dflt (refine' item_led ?k1 ?k2 ?k3 ?k4 ?k5 ?_ ?k6; (case k1 => k_asm); (case k2 => with_reducible assumption); (case k3 => omega); (case k4 => omega); (case k5 => assumption); (case k6 => with_unfolding_all rfl); k_whole)) | walk1) | (dsimp only; (first | ((with_reducible show wpAny _ _ (compareOp CmpOp.NotEq (Value.int _ _) (Value.int _ _)) _ _ _); k_dflt (refine' ne_ints ?h ?_; (case h => assumption))) | ((with_reducible show wpAny _ _ (compareOp CmpOp.NotEq (Value.ref _) (Value.ref _)) _ _ _); k_dflt (refine' ne_lists ?N9 ?q1 ?q2 ?q3 ?q4 ?q5 ?ku ?_; (case N9 => k_asm); (case q1 => k_mem); (case q2 => k_mem); (case q3 => assumption); (case q4 => assumption); (case q5 => rfl); (case ku => units_room))) | ((with_reducible show wpAny _ _ (compareOp CmpOp.NotEq (Value.float _ _) (Value.float _ _)) _ _ _); k_dflt (refine' ne_flt ?h ?_; (case h => assumption))) | ((with_reducible show wpAny _ _ (exec (Stmt.For _ _ _ _ _) _) _ _ _); k_dflt (refine wpAny_For ?_)) | ((with_reducible show wpAny _ _ (call (Value.ref 35) _) _ _ _); k_dflt (refine' use0 (c_cmp ?N9 ?sub ?q1 ?q2 ?q3 ?q4 ?q5 ?q6 ?q7 ?q8 ?q9 ?q10 ?q11) ?k1 ?k2 ?k3 ?k4 ?kK ?k5 ?kd ?ku ?_; (case N9 => k_asm); (case sub => assumption); (case q1 => assumption); (case q2 => assumption); (case q3 => assumption); (case q4 => assumption); (case q5 => assumption); (case q6 => assumption); (case q7 => assumption); (case q8 => assumption); (case q9 => assumption); (case q10 => assumption); (case q11 => assumption); (case k1 => k_asm); (case k2 => k_asm); (case k3 => k_asm); (case k4 => k_asm); (case kK => rfl); (case k5 => k_asm); (case kd => ktr_room); (case ku => ktr_units); k_whole); intro v9_z h9_z tk9_z F9_z N9_z hP9_z; obtain ⟨t9_z, e9_z⟩ := hP9_z; subst e9_z; (try k_sweep)) | ((with_reducible show wpAny _ _ (call (Value.ref 131) _) _ _ _); k_dflt (refine' use0 (c_first ?N9 ?sub ?q1 ?q2 ?q3 ?q4 ?q5 ?q6 ?q7) ?k1 ?k2 ?k3 ?k4 ?kK ?k5 ?kd ?ku ?_; (case N9 => k_asm); (case sub => assumption); (case q1 => assumption); (case q2 => assumption); (case q3 => k_mem); (case q4 => assumption); (case q5 => assumption); (case q6 => assumption); (case q7 => assumption); (case k1 => k_asm); (case k2 => k_asm); (case k3 => k_asm); (case k4 => k_asm); (case kK => rfl); (case k5 => k_asm); (case kd => ktr_room); (case ku => ktr_units); k_whole); intro v9_z h9_z tk9_z F9_z N9_z hP9_z; obtain ⟨t9_z, e9_z⟩ := hP9_z; subst e9_z; (try k_sweep)) | ((with_reducible show wpAny _ _ (call (Value.ref 124) [Value.float _ _, Value.float _ _]) _ _ _); k_dflt (refine' use0 d_signF ?k1 ?k2 ?k3 ?k4 ?kK ?k5 ?kd ?ku ?_; (case k1 => k_asm); (case k2 => k_asm); (case k3 => k_asm); (case k4 => k_asm); (case kK => rfl); (case k5 => k_asm); (case kd => ktr_room); (case ku => ktr_units); k_whole); intro v9_z h9_z tk9_z F9_z N9_z hP9_z; obtain ⟨t9_z, e9_z⟩ := hP9_z; subst e9_z; (try k_sweep)) | ((with_reducible show wpAny _ _ (call (Value.ref 124) [Value.int _ _, Value.int _ _]) _ _ _); k_dflt (refine' use0 d_sign ?k1 ?k2 ?k3 ?k4 ?kK ?k5 ?kd ?ku ?_; (case k1 => k_asm); (case k2 => k_asm); (case k3 => k_asm); (case k4 => k_asm); (case kK => rfl); (case k5 => k_asm); (case kd => ktr_room); (case ku => ktr_units); k_whole); intro v9_z h9_z tk9_z F9_z N9_z hP9_z; obtain ⟨t9_z, e9_z⟩ := hP9_z; subst e9_z; (try k_sweep)) | ((with_reducible show wpAny _ _ (subscriptTail _ _ (Value.ref _) (Value.int 3 _)) _ _ _); k_dflt (refine' item4_3 ?k1 ?k2 ?_ ?k6; (case k1 => k_asm); (case k2 => with_reducible assumption); (case k6 => with_unfolding_all rfl); k_whole)) | ((with_reducible show wpAny _ _ (subscriptTail _ _ (Value.ref _) (Value.int 2 _)) _ _ _); k_dflt (refine' item4_2 ?k1 ?k2 ?_ ?k6; (case k1 => k_asm); (case k2 => with_reducible assumption); (case k6 => with_unfolding_all rfl); k_whole)) | ((with_reducible show wpAny _ _ (subscriptTail _ _ (Value.ref _) (Value.int 1 _)) _ _ _); k_dflt (refine' item4_1 ?k1 ?k2 ?_ ?k6; (case k1 => k_asm); (case k2 => with_reducible assumption); (case k6 => with_unfolding_all rfl); k_whole)) | ((with_reducible show wpAny _ _ (subscriptTail _ _ (Value.ref _) (Value.int 0 _)) _ _ _); k_dflt (refine' item4_0 ?k1 ?k2 ?_ ?k6; (case k1 => k_asm); (case k2 => with_reducible assumption); (case k6 => with_unfolding_all rfl); k_whole)) | ((with_reducible show wpAny _ _ (subscriptTail _ _ (Value.ref _) (Value.int 1 _)) _ _ _); k_dflt (refine' item2_1 ?k1 ?k2 ?_ ?k6; (case k1 => k_asm); (case k2 => with_reducible assumption); (case k6 => with_unfolding_all rfl); k_whole)) | ((with_reducible show wpAny _ _ (subscriptTail _ _ (Value.ref _) (Value.int 0 _)) _ _ _); k_dflt (refine' item2_0 ?k1 ?k2 ?_ ?k6; (case k1 => k_asm); (case k2 => with_reducible assumption); (case k6 => with_unfolding_all rfl); k_whole)) | ((with_reducible show wpAny _ _ (subscriptTail _ _ (Value.ref _) (Value.int _ _)) _ _ _); k_dflt (refine' item_led ?k1 ?k2 ?k3 ?k4 ?k5 ?_ ?k6; (case k1 => k_asm); (case k2 => with_reducible assumption); (case k3 => omega); (case k4 => omega); (case k5 => assumption); (case k6 => with_unfolding_all rfl); k_whole)) | walk1)) | (k_unfold; (try dsimp only)))
      refine ⟨_, _, _, (c4, o4') :: (c5, o5) :: NN, rfl, F8, ?_, ?_, hm3, o4', o5, _, _, rfl, h4', h5⟩
      · intro q hq
        refine N8 q ?_
        simp only [List.mem_cons] at hq ⊢
        rcases hq with h | h | h | h <;> simp [h]
      · intro q hq
        rcases List.mem_cons.mp hq with rfl | hq
        · exact hofI (c4, o4) (.head _)
        · rcases List.mem_cons.mp hq with rfl | hq
          · have zz := hofI _ (List.mem_cons_of_mem _ List.mem_cons_self)
            exact zz
          · exact hofI q (.tail _ (.tail _ hq))
  case fin =>
    clear F N h4 h5 hm
    rintro m2 news h8 tk8 ⟨hm2, o4, o5, v4, v5, rfl, h4, h5⟩ F8 N8
    iterate 3 (first | (first | ((with_reducible show wpAny _ _ (compareOp CmpOp.NotEq (Value.int _ _) (Value.int _ _)) _ _ _); k_dflt (refine' ne_ints ?h ?_; (case h => assumption))) | ((with_reducible show wpAny _ _ (compareOp CmpOp.NotEq (Value.ref _) (Value.ref _)) _ _ _); k_dflt (refine' ne_lists ?N9 ?q1 ?q2 ?q3 ?q4 ?q5 ?ku ?_; (case N9 => k_asm); (case q1 => k_mem); (case q2 => k_mem); (case q3 => assumption); (case q4 => assumption); (case q5 => rfl); (case ku => units_room))) | ((with_reducible show wpAny _ _ (compareOp CmpOp.NotEq (Value.float _ _) (Value.float _ _)) _ _ _); k_dflt (refine' ne_flt ?h ?_; (case h => assumption))) | ((with_reducible show wpAny _ _ (exec (Stmt.For _ _ _ _ _) _) _ _ _); k_dflt (refine wpAny_For ?_)) | ((with_reducible show wpAny _ _ (call (Value.ref 35) _) _ _ _); k_dflt (refine' use0 (c_cmp ?N9 ?sub ?q1 ?q2 ?q3 ?q4 ?q5 ?q6 ?q7 ?q8 ?q9 ?q10 ?q11) ?k1 ?k2 ?k3 ?k4 ?kK ?k5 ?kd ?ku ?_; (case N9 => k_asm); (case sub => assumption); (case q1 => assumption); (case q2 => assumption); (case q3 => assumption); (case q4 => assumption); (case q5 => assumption); (case q6 => assumption); (case q7 => assumption); (case q8 => assumption); (case q9 => assumption); (case q10 => assumption); (case q11 => assumption); (case k1 => k_asm); (case k2 => k_asm); (case k3 => k_asm); (case k4 => k_asm); (case kK => rfl); (case k5 => k_asm); (case kd => ktr_room); (case ku => ktr_units); k_whole); intro v9_z h9_z tk9_z F9_z N9_z hP9_z; obtain ⟨t9_z, e9_z⟩ := hP9_z; subst e9_z; (try k_sweep)) | ((with_reducible show wpAny _ _ (call (Value.ref 131) _) _ _ _); k_dflt (refine' use0 (c_first ?N9 ?sub ?q1 ?q2 ?q3 ?q4 ?q5 ?q6 ?q7) ?k1 ?k2 ?k3 ?k4 ?kK ?k5 ?kd ?ku ?_; (case N9 => k_asm); (case sub => assumption); (case q1 => assumption); (case q2 => assumption); (case q3 => k_mem); (case q4 => assumption); (case q5 => assumption); (case q6 => assumption); (case q7 => assumption); (case k1 => k_asm); (case k2 => k_asm); (case k3 => k_asm); (case k4 => k_asm); (case kK => rfl); (case k5 => k_asm); (case kd => ktr_room); (case ku => ktr_units); k_whole); intro v9_z h9_z tk9_z F9_z N9_z hP9_z; obtain ⟨t9_z, e9_z⟩ := hP9_z; subst e9_z; (try k_sweep)) | ((with_reducible show wpAny _ _ (call (Value.ref 124) [Value.float _ _, Value.float _ _]) _ _ _); k_dflt (refine' use0 d_signF ?k1 ?k2 ?k3 ?k4 ?kK ?k5 ?kd ?ku ?_; (case k1 => k_asm); (case k2 => k_asm); (case k3 => k_asm); (case k4 => k_asm); (case kK => rfl); (case k5 => k_asm); (case kd => ktr_room); (case ku => ktr_units); k_whole); intro v9_z h9_z tk9_z F9_z N9_z hP9_z; obtain ⟨t9_z, e9_z⟩ := hP9_z; subst e9_z; (try k_sweep)) | ((with_reducible show wpAny _ _ (call (Value.ref 124) [Value.int _ _, Value.int _ _]) _ _ _); k_dflt (refine' use0 d_sign ?k1 ?k2 ?k3 ?k4 ?kK ?k5 ?kd ?ku ?_; (case k1 => k_asm); (case k2 => k_asm); (case k3 => k_asm); (case k4 => k_asm); (case kK => rfl); (case k5 => k_asm); (case kd => ktr_room); (case ku => ktr_units); k_whole); intro v9_z h9_z tk9_z F9_z N9_z hP9_z; obtain ⟨t9_z, e9_z⟩ := hP9_z; subst e9_z; (try k_sweep)) | ((with_reducible show wpAny _ _ (subscriptTail _ _ (Value.ref _) (Value.int 3 _)) _ _ _); k_dflt (refine' item4_3 ?k1 ?k2 ?_ ?k6; (case k1 => k_asm); (case k2 => with_reducible assumption); (case k6 => with_unfolding_all rfl); k_whole)) | ((with_reducible show wpAny _ _ (subscriptTail _ _ (Value.ref _) (Value.int 2 _)) _ _ _); k_dflt (refine' item4_2 ?k1 ?k2 ?_ ?k6; (case k1 => k_asm); (case k2 => with_reducible assumption); (case k6 => with_unfolding_all rfl); k_whole)) | ((with_reducible show wpAny _ _ (subscriptTail _ _ (Value.ref _) (Value.int 1 _)) _ _ _); k_dflt (refine' item4_1 ?k1 ?k2 ?_ ?k6; (case k1 => k_asm); (case k2 => with_reducible assumption); (case k6 => with_unfolding_all rfl); k_whole)) | ((with_reducible show wpAny _ _ (subscriptTail _ _ (Value.ref _) (Value.int 0 _)) _ _ _); k_dflt (refine' item4_0 ?k1 ?k2 ?_ ?k6; (case k1 => k_asm); (case k2 => with_reducible assumption); (case k6 => with_unfolding_all rfl); k_whole)) | ((with_reducible show wpAny _ _ (subscriptTail _ _ (Value.ref _) (Value.int 1 _)) _ _ _); k_dflt (refine' item2_1 ?k1 ?k2 ?_ ?k6; (case k1 => k_asm); (case k2 => with_reducible assumption); (case k6 => with_unfolding_all rfl); k_whole)) | ((with_reducible show wpAny _ _ (subscriptTail _ _ (Value.ref _) (Value.int 0 _)) _ _ _); k_dflt (refine' item2_0 ?k1 ?k2 ?_ ?k6; (case k1 => k_asm); (case k2 => with_reducible assumption); (case k6 => with_unfolding_all rfl); k_whole)) | ((with_reducible show wpAny _ _ (subscriptTail _ _ (Value.ref _) (Value.int _ _)) _ _ _); k_dflt (refine' item_led ?k1 ?k2 ?k3 ?k4 ?k5 ?_ ?k6; (case k1 => k_asm); (case k2 => with_reducible assumption); (case k3 => omega); (case k4 => omega); (case k5 => assumption); (case k6 => with_unfolding_all rfl); k_whole)) | walk1) | (dsimp only; (first | ((with_reducible show wpAny _ _ (compareOp CmpOp.NotEq (Value.int _ _) (Value.int _ _)) _ _ _); k_dflt (refine' ne_ints ?h ?_; (case h => assumption))) | ((with_reducible show wpAny _ _ (compareOp CmpOp.NotEq (Value.ref _) (Value.ref _)) _ _ _); k_dflt (refine' ne_lists ?N9 ?q1 ?q2 ?q3 ?q4 ?q5 ?ku ?_; (case N9 => k_asm); (case q1 => k_mem); (case q2 => k_mem); (case q3 => assumption); (case q4 => assumption); (case q5 => rfl); (case ku => units_room))) | ((with_reducible show wpAny _ _ (compareOp CmpOp.NotEq (Value.float _ _) (Value.float _ _)) _ _ _); k_dflt (refine' ne_flt ?h ?_; (case h => assumption))) | ((with_reducible show wpAny _ _ (exec (Stmt.For _ _ _ _ _) _) _ _ _); k_dflt (refine wpAny_For ?_)) | ((with_reducible show wpAny _ _ (call (Value.ref 35) _) _ _ _); k_dflt (refine' use0 (c_cmp ?N9 ?sub ?q1 ?q2 ?q3 ?q4 ?q5 ?q6 ?q7 ?q8 ?q9 ?q10 ?q11) ?k1 ?k2 ?k3 ?k4 ?kK ?k5 ?kd ?ku ?_; (case N9 => k_asm); (case sub => assumption); (case q1 => assumption); (case q2 => assumption); (case q3 => assumption); (case q4 => assumption); (case q5 => assumption); (case q6 => assumption); (case q7 => assumption); (case q8 => assumption); (case q9 => assumption); (case q10 => assumption); (case q11 => assumption); (case k1 => k_asm); (case k2 => k_asm); (case k3 => k_asm); (case k4 => k_asm); (case kK => rfl); (case k5 => k_asm); (case kd => ktr_room); (case ku => ktr_units); k_whole); intro v9_z h9_z tk9_z F9_z N9_z hP9_z; obtain ⟨t9_z, e9_z⟩ := hP9_z; subst e9_z; (try k_sweep)) | ((with_reducible show wpAny _ _ (call (Value.ref 131) _) _ _ _); k_dflt (refine' use0 (c_first ?N9 ?sub ?q1 ?q2 ?q3 ?q4 ?q5 ?q6 ?q7) ?k1 ?k2 ?k3 ?k4 ?kK ?k5 ?kd ?ku ?_; (case N9 => k_asm); (case sub => assumption); (case q1 => assumption); (case q2 => assumption); (case q3 => k_mem); (case q4 => assumption); (case q5 => assumption); (case q6 => assumption); (case q7 => assumption); (case k1 => k_asm); (case k2 => k_asm); (case k3 => k_asm); (case k4 => k_asm); (case kK => rfl); (case k5 => k_asm); (case kd => ktr_room); (case ku => ktr_units); k_whole); intro v9_z h9_z tk9_z F9_z N9_z hP9_z; obtain ⟨t9_z, e9_z⟩ := hP9_z; subst e9_z; (try k_sweep)) | ((with_reducible show wpAny _ _ (call (Value.ref 124) [Value.float _ _, Value.float _ _]) _ _ _); k_dflt (refine' use0 d_signF ?k1 ?k2 ?k3 ?k4 ?kK ?k5 ?kd ?ku ?_; (case k1 => k_asm); (case k2 => k_asm); (case k3 => k_asm); (case k4 => k_asm); (case kK => rfl); (case k5 => k_asm); (case kd => ktr_room); (case ku => ktr_units); k_whole); intro v9_z h9_z tk9_z F9_z N9_z hP9_z; obtain ⟨t9_z, e9_z⟩ := hP9_z; subst e9_z; (try k_sweep)) | ((with_reducible show wpAny _ _ (call (Value.ref 124) [Value.int _ _, Value.int _ _]) _ _ _); k_dflt (refine' use0 d_sign ?k1 ?k2 ?k3 ?k4 ?kK ?k5 ?kd ?ku ?_; (case k1 => k_asm); (case k2 => k_asm); (case k3 => k_asm); (case k4 => k_asm); (case kK => rfl); (case k5 => k_asm); (case kd => ktr_room); (case ku => ktr_units); k_whole); intro v9_z h9_z tk9_z F9_z N9_z hP9_z; obtain ⟨t9_z, e9_z⟩ := hP9_z; subst e9_z; (try k_sweep)) | ((with_reducible show wpAny _ _ (subscriptTail _ _ (Value.ref _) (Value.int 3 _)) _ _ _); k_dflt (refine' item4_3 ?k1 ?k2 ?_ ?k6; (case k1 => k_asm); (case k2 => with_reducible assumption); (case k6 => with_unfolding_all rfl); k_whole)) | ((with_reducible show wpAny _ _ (subscriptTail _ _ (Value.ref _) (Value.int 2 _)) _ _ _); k_dflt (refine' item4_2 ?k1 ?k2 ?_ ?k6; (case k1 => k_asm); (case k2 => with_reducible assumption); (case k6 => with_unfolding_all rfl); k_whole)) | ((with_reducible show wpAny _ _ (subscriptTail _ _ (Value.ref _) (Value.int 1 _)) _ _ _); k_dflt (refine' item4_1 ?k1 ?k2 ?_ ?k6; (case k1 => k_asm); (case k2 => with_reducible assumption); (case k6 => with_unfolding_all rfl); k_whole)) | ((with_reducible show wpAny _ _ (subscriptTail _ _ (Value.ref _) (Value.int 0 _)) _ _ _); k_dflt (refine' item4_0 ?k1 ?k2 ?_ ?k6; (case k1 => k_asm); (case k2 => with_reducible assumption); (case k6 => with_unfolding_all rfl); k_whole)) | ((with_reducible show wpAny _ _ (subscriptTail _ _ (Value.ref _) (Value.int 1 _)) _ _ _); k_dflt (refine' item2_1 ?k1 ?k2 ?_ ?k6; (case k1 => k_asm); (case k2 => with_reducible assumption); (case k6 => with_unfolding_all rfl); k_whole)) | ((with_reducible show wpAny _ _ (subscriptTail _ _ (Value.ref _) (Value.int 0 _)) _ _ _); k_dflt (refine' item2_0 ?k1 ?k2 ?_ ?k6; (case k1 => k_asm); (case k2 => with_reducible assumption); (case k6 => with_unfolding_all rfl); k_whole)) | ((with_reducible show wpAny _ _ (subscriptTail _ _ (Value.ref _) (Value.int _ _)) _ _ _); k_dflt (refine' item_led ?k1 ?k2 ?k3 ?k4 ?k5 ?_ ?k6; (case k1 => k_asm); (case k2 => with_reducible assumption); (case k3 => omega); (case k4 => omega); (case k5 => assumption); (case k6 => with_unfolding_all rfl); k_whole)) | walk1)) | (k_unfold; (try dsimp only)))
    exact hQ _ _ _ F8 fun q hq => N8 q (.tail _ (.tail _ hq))
end Mine
end

local macro_rules | `(tactic| walk_at "PAD 2") => `(tactic| skip)
theorem Mine.fresh46 : True := by
  w_top off
  trivial
section
open PySem PySem.W PySem.Calls PySem.Spec PyProof.Rows
set_option maxRecDepth 100000
set_option maxHeartbeats 2000000
namespace Mine
local macro_rules | `(tactic| walk_at "CompSrc") => `(tactic| (k_here; k_dflt (refine' LCg.CompSrc.ledger (by rfl) (by k_asm) (by k_asm) (by k_mem) ?sz ?rest; (case sz => first | size_fits | exact Nat.le_of_ble_eq_true rfl); intro g')))
noncomputable def lawM (J Kk Wi l : Addr) : Str → Option Value := fun y => if y = Str.ofString "judge" then some (.ref J) else if y = Str.ofString "keys" then some (.ref Kk) else if y = Str.ofString "wishes" then some (.ref Wi) else if y = Str.ofString "script" then some (.ref l) else none
theorem off1_mem {D : Addr} : ∀ {l : List (Addr × Obj)}, LCg.Off1 D l → ∀ q ∈ l, q.1 ≠ D
  | [], _, _, hq => nomatch hq
  | _ :: _, h, q, hq => by
    rcases List.mem_cons.mp hq with rfl | hq
    · exact h.1
    · exact off1_mem h.2 q hq
theorem lst_cell_ne {h₀ h : Heap} {L : Addr} {NL : List (Addr × Obj)} (N : News h₀ L h NL) {a c : Addr} {its : Array Value} {n : Nat} {o : Obj} {v : Option Value} (hm : (a, PySem.W.listOf its n) ∈ NL) (hc : (c, o) ∈ NL) (hv : o.data = .cell v) : a ≠ c := fun e => by
  have e1 := (N _ hm).1
  have e2 := (N _ hc).1
  dsimp only at e1 e2
  rw [e, e2] at e1
  have e3 := Option.some.inj e1
  rw [e3] at hv
  cases hv
theorem keysL_mono {ys : List Value} {G G' : List (Addr × Obj)} {ks : List (Int × Int)} (h : KeysL ys G ks) (k : ∀ p ∈ G, p ∈ G') : KeysL ys G' ks :=
  ⟨h.1, fun i a b hi => let ⟨P, t1, t2, c, e1, e2⟩ := h.2 i a b hi; ⟨P, t1, t2, c, e1, k _ e2⟩⟩
theorem wishL_mono {ys : Array Value} {G G' : List (Addr × Obj)} {ks : List (Int × Int)} (h : WishL ys G ks) (k : ∀ p ∈ G, p ∈ G') : WishL ys G' ks :=
  ⟨h.1, fun i a b hi => let ⟨P, t1, t2, c, e1, e2⟩ := h.2 i a b hi; ⟨P, t1, t2, c, e1, k _ e2⟩⟩
theorem mem_nn {α : Type} {a b d x y z q : α} {G R TL : List α} (hq : q ∈ a :: b :: d :: (G ++ x :: y :: z :: R ++ TL)) : q ∈ d :: (G ++ x :: y :: z :: (a :: b :: R) ++ TL) := by
  simp only [List.mem_cons, List.mem_append] at hq ⊢
  rcases hq with h | h | h | (h | h | h | h | h) | h <;> simp [h]
theorem law_things {w : World} {A₀ : Around} {h₀ base : Heap} {mg mb : Str → Option Value} {p : Program} {loose : List Str} {mean : ExcName → Option Value} {dp un : Nat} {gd : Option (List Code)} {L fa : Addr} {cd : Value} {outer : List Env} {s : Shared} {Q : Flow → Shared → Prop} {E : Value → Shared → Prop}
    {c1 c2 c3 c4 c5 J dx Tp Kk Wi l : Addr} {vs : List Value} {xs : List Int} {R : List (Addr × Obj)} {o4 o5 : Obj} {v4 v5 : Option Value} {nJ nT nW : Nat} {hsh : Int} {tt : Tok} {ps wv : Array Value} {ws : List (Int × Int)}
    (B : Below A₀ base outer h₀) (X : (hd.heap_1 w.params).In h₀) (T : Top p loose mean mg mb h₀) (hd : dp + 100 < recursionLimit) (hu : un + 8 * 100 < cLine)
    (hl : h₀.IsList l vs.toArray) (hI : IntsAre vs xs) (hlen : ¬ (63 : Int) < (xs.length : Int))
    (F : Fr h₀ L s.heap (lawM J Kk Wi l)) (N : News h₀ L s.heap (((c4, o4) :: (c5, o5) :: R) ++ tail4 (tabObj #[]) (tabObj #[]) 65 58 (tabObj #[]) (tabObj #[]))) (hR : Away 65 58 ((c4, o4) :: (c5, o5) :: R))
    (h4 : o4.data = .cell v4) (h5 : o5.data = .cell v5) (f4 : ∀ q ∈ R, q.1 ≠ c4) (f5 : ∀ q ∈ R, q.1 ≠ c5) (f45 : c4 ≠ c5)
    (hJ : (J, instObj 38 dx) ∈ R) (hdx : (dx, dictOf [⟨hsh, .str (Str.ofString "comp_select_list") tt, .ref Tp⟩] nJ) ∈ R) (hTp : (Tp, tupO ps nT) ∈ R) (hK : KeysL ps.toList R (keysOf loB hiB wyB ws))
    (hWi : (Wi, W.listOf wv nW) ∈ R) (hW : WishL wv R ws) (hws : ∀ q ∈ ws, (0 ≤ q.1 ∧ q.1 < 5) ∧ (q.2 = 1 ∨ q.2 = -1))
    (hE : PassesOwn (model PR w) (ktrTop dp un gd lawD.name lawD.scope L fa cd [(Str.ofString "two", c5), (Str.ofString "one", c4), (Str.ofString "ways", c3), (Str.ofString "bounds", c2), (Str.ofString "total", c1)] outer) (envX lawD.name lawD.scope L fa cd [(Str.ofString "two", c5), (Str.ofString "one", c4), (Str.ofString "ways", c3), (Str.ofString "bounds", c2), (Str.ofString "total", c1)]) E)
    (hQ : ∀ h' tk' m' t5 t8 c5' c8' o5' o8', Fr h₀ L h' m' → News h₀ L h' (tail4 t5 t8 c5' c8' o5' o8') → Tabs t5 t8 c5' c8' o5' o8' → Q (.ret (.bool true)) { s with heap := h', toks := tk' }) :
    wpAny (model PR w) (ktrTop dp un gd lawD.name lawD.scope L fa cd [(Str.ofString "two", c5), (Str.ofString "one", c4), (Str.ofString "ways", c3), (Str.ofString "bounds", c2), (Str.ofString "total", c1)] outer) (execs (lawD.body.drop 6) (envX lawD.name lawD.scope L fa cd [(Str.ofString "two", c5), (Str.ofString "one", c4), (Str.ofString "ways", c3), (Str.ofString "bounds", c2), (Str.ofString "total", c1)])) Q E s := by
  unfold lawM at F
  dsimp only [lawD, lawOf, List.drop]
  have up0 : ∀ q ∈ R, q ∈ (c4, o4) :: (c5, o5) :: R := fun q hq => .tail _ (.tail _ hq)
  have j4 : ∀ q ∈ R, q.1 ≠ c4 := f4
  have a4 : (c4, o4) ∈ (c4, o4) :: (c5, o5) :: R := .head _
  have a5 : (c5, o5) ∈ (c4, o4) :: (c5, o5) :: R := .tail _ (.head _)
  generalize hRR : (c4, o4) :: (c5, o5) :: R = RR at N hR up0 a4 a5
  iterate 2 (first | (k_unfold; (try dsimp only)) | walk1 | (dsimp only; walk1) | (leave1; walk_say "STEP leave1"; (try dsimp only)))
  case rest =>
    rename IntsAre _ ([125, 14125, 521] ++ List.take 3 xs) => hI3
    rename News _ _ _ _ => NT
    rename Fr _ _ _ _ => FT
    have awl : ∀ {a : Addr} {its : Array Value} {n : Nat}, (a, PySem.W.listOf its n) ∈ _ → a ≠ 65 ∧ a ≠ 58 ∧ a ≠ 65 ∧ a ≠ 58 := fun hm => lst_away (rest := _ :: _ :: _ :: RR) Tabs.start NT (NT _ hm).1 ⟨_, _, rfl⟩
    have k4 := lst_cell_ne NT (.head _) (.tail _ (.tail _ (.tail _ (List.mem_append_left _ a4)))) h4
    have k5 := lst_cell_ne NT (.head _) (.tail _ (.tail _ (.tail _ (List.mem_append_left _ a5)))) h5
    have k24 := lst_cell_ne NT (.tail _ (.head _)) (.tail _ (.tail _ (.tail _ (List.mem_append_left _ a4)))) h4
    have k25 := lst_cell_ne NT (.tail _ (.head _)) (.tail _ (.tail _ (.tail _ (List.mem_append_left _ a5)))) h5
    have k34 := lst_cell_ne NT (.tail _ (.tail _ (.head _))) (.tail _ (.tail _ (.tail _ (List.mem_append_left _ a4)))) h4
    have k35 := lst_cell_ne NT (.tail _ (.tail _ (.head _))) (.tail _ (.tail _ (.tail _ (List.mem_append_left _ a5)))) h5
    refine Eq.mp (congrArg (fun z => LCg.CompRest _ _ _ _ _ _ _ _ _ _ _ _ _ _ _ z _ _ _) (show ([125, 14125, 521] ++ List.take 3 xs).length = _ from hI3.length.symm)) ?_
    refine things_rest (R := _ :: _ :: _ :: RR) B X T rfl (by omega) (by omega) hI3 (.head _) ?hcall ?fin _ 0 [] [] (tabObj #[]) (tabObj #[]) 65 58 (tabObj #[]) (tabObj #[]) (Nat.zero_add _) .nil .start ?aw (fun q hq => nomatch hq)
    case aw =>
      intro q hq
      rcases List.mem_cons.mp hq with rfl | hq
      · exact awl (.head _)
      · rcases List.mem_cons.mp hq with rfl | hq
        · exact awl (.tail _ (.head _))
        · rcases List.mem_cons.mp hq with rfl | hq
          · exact awl (.tail _ (.tail _ (.head _)))
          · exact hR q hq
    case hcall =>
      clear NT FT awl
      intro y t I oI C oC D m₂ ys news h tk Q' E' hC hx F9 N9 hgo
      iterate 8 (first | walk1 | (dsimp only; walk1))
      exact hgo
    case fin =>
      clear NT FT awl
      intro ys G t5 t8 c5' c8' o5' o8' hT TB hA hAp
      unfold LCg.FinA
      intro D h tk F9 N9 o1
      have offD : ∀ q ∈ G ++ _ :: _ :: _ :: RR, q.1 ≠ D := fun q hq => off1_mem o1 q (List.mem_append_left _ hq)
      have w4 := hA (c4, o4) (List.mem_append_right _ (.tail _ (.tail _ (.tail _ a4))))
      have w5 := hA (c5, o5) (List.mem_append_right _ (.tail _ (.tail _ (.tail _ a5))))
      dsimp only at w4 w5
      have d4 := offD (c4, o4) (List.mem_append_right _ (.tail _ (.tail _ (.tail _ a4))))
      have d5 := offD (c5, o5) (List.mem_append_right _ (.tail _ (.tail _ (.tail _ a5))))
      dsimp only at d4 d5
      obtain ⟨D1, p1, D2, p2, D3, p3, N10, x14, x24, x34, x15, x25, x35, g4, g5⟩ : ∃ (D1 : Addr) (p1 : Obj) (D2 : Addr) (p2 : Obj) (D3 : Addr) (p3 : Obj), News h₀ L h ((D, LCg.lst ys) :: (G ++ (D1, p1) :: (D2, p2) :: (D3, p3) :: RR ++ tail4 t5 t8 c5' c8' o5' o8')) ∧ D1 ≠ c4 ∧ D2 ≠ c4 ∧ D3 ≠ c4 ∧ D1 ≠ c5 ∧ D2 ≠ c5 ∧ D3 ≠ c5 ∧ (∀ q ∈ G, c4 ≠ q.1) ∧ (∀ q ∈ G, c5 ≠ q.1) :=
        ⟨_, _, _, _, _, _, N9, k4, k24, k34, k5, k25, k35, fun q hq => hAp q hq (c4, o4) (.tail _ (.tail _ (.tail _ a4))), fun q hq => hAp q hq (c5, o5) (.tail _ (.tail _ (.tail _ a5)))⟩
      have ne : ∀ c, (∀ q ∈ R, q.1 ≠ c) → (c ≠ 65 ∧ c ≠ 58 ∧ c ≠ c5' ∧ c ≠ c8') → D1 ≠ c → D2 ≠ c → D3 ≠ c → (∀ q ∈ G, c ≠ q.1) → c ≠ D → ∀ q ∈ (D, LCg.lst ys) :: (G ++ (D1, p1) :: (D2, p2) :: (D3, p3) :: R ++ tail4 t5 t8 c5' c8' o5' o8'), q.1 ≠ c := by
        intro c hRc hw d1 d2 d3 hG hD q hq
        rcases List.mem_cons.mp hq with rfl | hq
        · exact Ne.symm hD
        · rcases List.mem_append.mp hq with hq | hq
          · rcases List.mem_append.mp hq with hq | hq
            · exact Ne.symm (hG q hq)
            · rcases List.mem_cons.mp hq with rfl | hq
              · exact d1
              · rcases List.mem_cons.mp hq with rfl | hq
                · exact d2
                · rcases List.mem_cons.mp hq with rfl | hq
                  · exact d3
                  · exact hRc q hq
          · simp only [tail4, List.mem_cons, List.not_mem_nil, or_false] at hq
            rcases hq with rfl | rfl | rfl | rfl
            · exact Ne.symm hw.1
            · exact Ne.symm hw.2.1
            · exact Ne.symm hw.2.2.1
            · exact Ne.symm hw.2.2.2
      have upG : ∀ q ∈ R, q ∈ (D, LCg.lst ys) :: (G ++ (D1, p1) :: (D2, p2) :: (D3, p3) :: R ++ tail4 t5 t8 c5' c8' o5' o8') := fun q hq => .tail _ (List.mem_append_left _ (List.mem_append_right _ (.tail _ (.tail _ (.tail _ hq)))))
      refine law_for (Kk := Kk) (NN := (D, LCg.lst ys) :: (G ++ (D1, p1) :: (D2, p2) :: (D3, p3) :: R ++ tail4 t5 t8 c5' c8' o5' o8')) B X T (by omega) (by omega) F9 ⟨rfl, rfl, rfl⟩ ?nn h4 h5 (ne c4 f4 w4 x14 x24 x34 g4 d4) (ne c5 f5 w5 x15 x25 x35 g5 d5) f45 (.head _) (hT.mono ?gg) (upG _ hJ) (upG _ hdx) (upG _ hTp) (keysL_mono hK upG) (upG _ hWi) (wishL_mono hW upG) hws hE ?qq
      case nn =>
        subst hRR
        intro q hq
        exact N10 q (mem_nn hq)
      case gg => exact fun q hq => .tail _ (List.mem_append_left _ (List.mem_append_left _ hq))
      case qq =>
        intro h' tk' m' F' N'
        exact hQ h' tk' m' t5 t8 c5' c8' o5' o8' F' (fun q hq => N' q (.tail _ (List.mem_append_right _ hq))) TB
end Mine
end

theorem Mine.fresh47 : True := by
  w_top off
  trivial
section
open PySem PySem.W PySem.Calls PySem.Spec PyProof.Rows
set_option maxRecDepth 100000
set_option maxHeartbeats 2000000
namespace Mine
local macro_rules | `(tactic| k_mem) => `(tactic| with_reducible assumption)
theorem mem_jj {α : Type} {a b x y z q : α} {R TL : List α} (hq : q ∈ (a :: b :: x :: y :: z :: R) ++ TL) : q ∈ x :: y :: z :: ((a :: b :: R) ++ TL) := by
  simp only [List.mem_cons, List.mem_append, List.cons_append] at hq ⊢
  rcases hq with h | h | h | h | h | h | h <;> simp [h]
theorem law_judge {w : World} {A₀ : Around} {h₀ base : Heap} {mg mb : Str → Option Value} {p : Program} {loose : List Str} {mean : ExcName → Option Value} {dp un : Nat} {gd : Option (List Code)} {L fa : Addr} {cd : Value} {outer : List Env} {s : Shared} {Q : Flow → Shared → Prop} {E : Value → Shared → Prop}
    {c1 c2 c3 c4 c5 Kk Wi l : Addr} {vs : List Value} {xs : List Int} {R : List (Addr × Obj)} {o4 o5 : Obj} {v4 v5 : Option Value} {nK nW : Nat} {wv : Array Value} {kv : List Value} {ws : List (Int × Int)}
    (B : Below A₀ base outer h₀) (X : (hd.heap_1 w.params).In h₀) (T : Top p loose mean mg mb h₀) (hd : dp + 100 < recursionLimit) (hu : un + 8 * 100 < cLine)
    (hl : h₀.IsList l vs.toArray) (hI : IntsAre vs xs) (hlen : ¬ (63 : Int) < (xs.length : Int))
    (F : Fr h₀ L s.heap (fun y => if y = Str.ofString "keys" then some (.ref Kk) else if y = Str.ofString "wishes" then some (.ref Wi) else if y = Str.ofString "script" then some (.ref l) else none))
    (N : News h₀ L s.heap (((c4, o4) :: (c5, o5) :: R) ++ tail4 (tabObj #[]) (tabObj #[]) 65 58 (tabObj #[]) (tabObj #[]))) (hR : Away 65 58 ((c4, o4) :: (c5, o5) :: R))
    (h4 : o4.data = .cell v4) (h5 : o5.data = .cell v5) (f4 : ∀ q ∈ R, q.1 ≠ c4) (f5 : ∀ q ∈ R, q.1 ≠ c5) (f45 : c4 ≠ c5)
    (hKk : (Kk, W.listOf kv.toArray nK) ∈ R) (hkl : kv.length ≤ 1000) (hK : KeysL kv R (keysOf loB hiB wyB ws))
    (hWi : (Wi, W.listOf wv nW) ∈ R) (hW : WishL wv R ws) (hws : ∀ q ∈ ws, (0 ≤ q.1 ∧ q.1 < 5) ∧ (q.2 = 1 ∨ q.2 = -1))
    (hE : PassesOwn (model PR w) (ktrTop dp un gd lawD.name lawD.scope L fa cd [(Str.ofString "two", c5), (Str.ofString "one", c4), (Str.ofString "ways", c3), (Str.ofString "bounds", c2), (Str.ofString "total", c1)] outer) (envX lawD.name lawD.scope L fa cd [(Str.ofString "two", c5), (Str.ofString "one", c4), (Str.ofString "ways", c3), (Str.ofString "bounds", c2), (Str.ofString "total", c1)]) E)
    (hQ : ∀ h' tk' m' t5 t8 c5' c8' o5' o8', Fr h₀ L h' m' → News h₀ L h' (tail4 t5 t8 c5' c8' o5' o8') → Tabs t5 t8 c5' c8' o5' o8' → Q (.ret (.bool true)) { s with heap := h', toks := tk' }) :
    wpAny (model PR w) (ktrTop dp un gd lawD.name lawD.scope L fa cd [(Str.ofString "two", c5), (Str.ofString "one", c4), (Str.ofString "ways", c3), (Str.ofString "bounds", c2), (Str.ofString "total", c1)] outer) (execs (lawD.body.drop 5) (envX lawD.name lawD.scope L fa cd [(Str.ofString "two", c5), (Str.ofString "one", c4), (Str.ofString "ways", c3), (Str.ofString "bounds", c2), (Str.ofString "total", c1)])) Q E s := by
  dsimp only [lawD, lawOf, List.drop]
  generalize hNN : ((c4, o4) :: (c5, o5) :: R) ++ tail4 (tabObj #[]) (tabObj #[]) 65 58 (tabObj #[]) (tabObj #[]) = news0 at N
  have mK : (Kk, W.listOf kv.toArray nK) ∈ news0 := by rw [← hNN]; exact List.mem_append_left _ (.tail _ (.tail _ hKk))
  have hks : kv.toArray.size ≤ 16384 := by rw [List.size_toArray]; omega
  iterate 15 (first | (first | ((with_reducible show wpAny _ _ (setAttr (Value.ref _) _ _) _ _ _); k_dflt (refine' set_dict ?k1 ?k2 ?k3 ?k4 ?k5 ?k6 ?k7 ?k8 ?k9 ?k10 ?k11 ?k12 ?k13 ?_; (case k1 => k_asm); (case k2 => k_asm); (case k3 => k_asm); (case k4 => k_inst); (case k5 => exact rfl); (case k6 => k_is); (case k7 => k_is); (case k8 => k_is); (case k9 => k_is); (case k10 => k_get); (case k11 => k_put); (case k12 => exact Upd.tail (by assumption) (Upd.head (by assumption))); (case k13 => exact Nat.le_of_ble_eq_true rfl); k_whole; intro hq_z Fq_z Nq_z; (try k_sweep))) | ((with_reducible show wpAny _ _ (call (Value.type "tuple") _) _ _ _); k_dflt (refine' kde_tupleOf (items := List.toArray ?kv) (zs := ?kv) ?k1 ?k2 ?k3 ?k4 ?k5 ?_; (case k1 => k_asm); (case k2 => k_asm); (case k3 => exact News.isList (by k_asm) (by k_mem)); (case k4 => assumption); (case k5 => exact rfl); k_whole); intro Dq_z hq_z Fq_z Nq_z l1_z; (try k_sweep)) | walk1) | (dsimp only; (first | ((with_reducible show wpAny _ _ (setAttr (Value.ref _) _ _) _ _ _); k_dflt (refine' set_dict ?k1 ?k2 ?k3 ?k4 ?k5 ?k6 ?k7 ?k8 ?k9 ?k10 ?k11 ?k12 ?k13 ?_; (case k1 => k_asm); (case k2 => k_asm); (case k3 => k_asm); (case k4 => k_inst); (case k5 => exact rfl); (case k6 => k_is); (case k7 => k_is); (case k8 => k_is); (case k9 => k_is); (case k10 => k_get); (case k11 => k_put); (case k12 => exact Upd.tail (by assumption) (Upd.head (by assumption))); (case k13 => exact Nat.le_of_ble_eq_true rfl); k_whole; intro hq_z Fq_z Nq_z; (try k_sweep))) | ((with_reducible show wpAny _ _ (call (Value.type "tuple") _) _ _ _); k_dflt (refine' kde_tupleOf (items := List.toArray ?kv) (zs := ?kv) ?k1 ?k2 ?k3 ?k4 ?k5 ?_; (case k1 => k_asm); (case k2 => k_asm); (case k3 => exact News.isList (by k_asm) (by k_mem)); (case k4 => assumption); (case k5 => exact rfl); k_whole); intro Dq_z hq_z Fq_z Nq_z l1_z; (try k_sweep)) | walk1)))
  k_dflt (refine' call_cls ?k1 ?k2 ?k3 ?k4 ?k5 ?k6 ?_; (case k1 => k_asm); (case k2 => k_asm); (case k3 => k_asm); (case k4 => k_is); (case k5 => k_is); (case k6 => k_is); k_whole; intro x9 d9 h9 F9 N9 l1 l2)
  have hne1 := fun (q : Addr × Obj) hq => Nat.ne_of_lt (l1 q hq)
  have hne2 : x9 ≠ d9 := Ne.symm (Nat.ne_of_lt l2)
  k_dflt (refine' code_def ?k1 ?k2 ?k3 ?k4 ?k5 ?kA ?kF ?kK ?k6 ?k7 ?k8 ?k9 ?kB ?_ ?c2 ?c3 ?c4 ?c5; (case kA => exact rfl); (case kF => exact rfl); (case kK => exact rfl); (case k1 => k_asm); (case k2 => k_asm); (case k3 => k_asm); (case k4 => k_asm); (case k5 => k_asm); (case k6 => k_is); (case k7 => k_is); (case k8 => ktr_room); (case k9 => first | exact BindsTo.of_eq rfl | exact binds_K (by k_in) rfl (by k_is) rfl rfl rfl); (case c5 => decide); (case kB => exact locs rfl); (case c2 => exact rfl); (case c3 => exact rfl); (case c4 => exact rfl); k_whole; intro g' L' h' FG' F' N' B' X' T'; (try dsimp only); (try k_lift B'); (try k_fold))
  iterate 9 (first | (first | ((with_reducible show wpAny _ _ (setAttr (Value.ref _) _ _) _ _ _); k_dflt (refine' set_dict ?k1 ?k2 ?k3 ?k4 ?k5 ?k6 ?k7 ?k8 ?k9 ?k10 ?k11 ?k12 ?k13 ?_; (case k1 => k_asm); (case k2 => k_asm); (case k3 => k_asm); (case k4 => k_inst); (case k5 => exact rfl); (case k6 => k_is); (case k7 => k_is); (case k8 => k_is); (case k9 => k_is); (case k10 => k_get); (case k11 => k_put); (case k12 => exact Upd.tail (by assumption) (Upd.head (by assumption))); (case k13 => exact Nat.le_of_ble_eq_true rfl); k_whole; intro hq_z Fq_z Nq_z; (try k_sweep))) | ((with_reducible show wpAny _ _ (call (Value.type "tuple") _) _ _ _); k_dflt (refine' kde_tupleOf (items := List.toArray ?kv) (zs := ?kv) ?k1 ?k2 ?k3 ?k4 ?k5 ?_; (case k1 => k_asm); (case k2 => k_asm); (case k3 => exact News.isList (by k_asm) (by k_mem)); (case k4 => assumption); (case k5 => exact rfl); k_whole); intro Dq_z hq_z Fq_z Nq_z l1_z; (try k_sweep)) | walk1) | (dsimp only; (first | ((with_reducible show wpAny _ _ (setAttr (Value.ref _) _ _) _ _ _); k_dflt (refine' set_dict ?k1 ?k2 ?k3 ?k4 ?k5 ?k6 ?k7 ?k8 ?k9 ?k10 ?k11 ?k12 ?k13 ?_; (case k1 => k_asm); (case k2 => k_asm); (case k3 => k_asm); (case k4 => k_inst); (case k5 => exact rfl); (case k6 => k_is); (case k7 => k_is); (case k8 => k_is); (case k9 => k_is); (case k10 => k_get); (case k11 => k_put); (case k12 => exact Upd.tail (by assumption) (Upd.head (by assumption))); (case k13 => exact Nat.le_of_ble_eq_true rfl); k_whole; intro hq_z Fq_z Nq_z; (try k_sweep))) | ((with_reducible show wpAny _ _ (call (Value.type "tuple") _) _ _ _); k_dflt (refine' kde_tupleOf (items := List.toArray ?kv) (zs := ?kv) ?k1 ?k2 ?k3 ?k4 ?k5 ?_; (case k1 => k_asm); (case k2 => k_asm); (case k3 => exact News.isList (by k_asm) (by k_mem)); (case k4 => assumption); (case k5 => exact rfl); k_whole); intro Dq_z hq_z Fq_z Nq_z l1_z; (try k_sweep)) | walk1)) | (leave1; walk_say "STEP leave1"; (try dsimp only)))
  rename News _ _ _ _ => N5
  rename Fr _ _ _ _ => F5
  have ltd0 := l1 _ (List.Mem.head _)
  have ltd := fun (q : Addr × Obj) hq => l1 q (List.Mem.tail _ hq)
  obtain ⟨Tp, cT, nd, hsh, tt, N6, ltT, lt0⟩ : ∃ (Tp : Addr) (cT nd : Nat) (hsh : Int) (tt : Tok), News h₀ L _ ((x9, instObj 38 d9) :: (d9, dictOf [⟨hsh, .str (Str.ofString "comp_select_list") tt, .ref Tp⟩] nd) :: (Tp, tupO kv.toArray cT) :: news0) ∧ (∀ q ∈ news0, q.1 < Tp) ∧ Tp < d9 := ⟨_, _, _, _, _, N5, by assumption, ltd0⟩
  have up3 : ∀ q ∈ R, q ∈ (x9, instObj 38 d9) :: (d9, dictOf [⟨hsh, .str (Str.ofString "comp_select_list") tt, .ref Tp⟩] nd) :: (Tp, tupO kv.toArray cT) :: R := fun q hq => .tail _ (.tail _ (.tail _ hq))
  have lts : ∀ q ∈ news0, q.1 ≠ Tp ∧ q.1 ≠ d9 ∧ q.1 ≠ x9 := fun q hq => by
    have h1 : @LT.lt Nat _ q.1 Tp := ltT q hq
    have h2 : @LT.lt Nat _ Tp d9 := lt0
    have h3 : @LT.lt Nat _ d9 x9 := l2
    exact ⟨Nat.ne_of_lt h1, Nat.ne_of_lt (Nat.lt_trans h1 h2), Nat.ne_of_lt (Nat.lt_trans h1 (Nat.lt_trans h2 h3))⟩
  have s4 := lts (c4, o4) (by rw [← hNN]; simp)
  have s5 := lts (c5, o5) (by rw [← hNN]; simp)
  have s65 := lts (65, tabObj #[]) (by rw [← hNN]; simp [tail4])
  have s58 := lts (58, tabObj #[]) (by rw [← hNN]; simp [tail4])
  refine law_things (R := (x9, instObj 38 d9) :: (d9, dictOf [⟨hsh, .str (Str.ofString "comp_select_list") tt, .ref Tp⟩] nd) :: (Tp, tupO kv.toArray cT) :: R) B X T hd hu hl hI hlen F5 ?nn ?hR h4 h5 ?f4 ?f5 f45 (.head _) (.tail _ (.head _)) (.tail _ (.tail _ (.head _))) (keysL_mono hK up3) (up3 _ hWi) (wishL_mono hW up3) hws hE hQ
  case nn =>
    subst hNN
    intro q hq
    exact N6 q (mem_jj hq)
  case hR =>
    intro q hq
    rcases List.mem_cons.mp hq with rfl | hq
    · exact hR _ (.head _)
    · rcases List.mem_cons.mp hq with rfl | hq
      · exact hR _ (.tail _ (.head _))
      · rcases List.mem_cons.mp hq with rfl | hq
        · exact ⟨Ne.symm s65.2.2, Ne.symm s58.2.2, Ne.symm s65.2.2, Ne.symm s58.2.2⟩
        · rcases List.mem_cons.mp hq with rfl | hq
          · exact ⟨Ne.symm s65.2.1, Ne.symm s58.2.1, Ne.symm s65.2.1, Ne.symm s58.2.1⟩
          · rcases List.mem_cons.mp hq with rfl | hq
            · exact ⟨Ne.symm s65.1, Ne.symm s58.1, Ne.symm s65.1, Ne.symm s58.1⟩
            · exact hR _ (.tail _ (.tail _ hq))
  case f4 =>
    intro q hq
    rcases List.mem_cons.mp hq with rfl | hq
    · exact Ne.symm s4.2.2
    · rcases List.mem_cons.mp hq with rfl | hq
      · exact Ne.symm s4.2.1
      · rcases List.mem_cons.mp hq with rfl | hq
        · exact Ne.symm s4.1
        · exact f4 q hq
  case f5 =>
    intro q hq
    rcases List.mem_cons.mp hq with rfl | hq
    · exact Ne.symm s5.2.2
    · rcases List.mem_cons.mp hq with rfl | hq
      · exact Ne.symm s5.2.1
      · rcases List.mem_cons.mp hq with rfl | hq
        · exact Ne.symm s5.1
        · exact f5 q hq
end Mine
end

theorem Mine.fresh48 : True := by
  w_top off
  trivial
section
open PySem PySem.W PySem.Calls PySem.Spec PyProof.Rows
set_option maxRecDepth 100000
set_option maxHeartbeats 2000000
namespace Mine
local macro_rules | `(tactic| k_mem) => `(tactic| with_reducible assumption)
theorem bd_tab : ∀ q : Nat, q < 6 → boundsL[q]? = some (boundsL.getD q 0) := by decide
theorem wy_tabS : ∀ q : Nat, q < 33 → waysL[q]? = some (waysL.getD q 0) := by decide
theorem getD_le (l : List Int) (b : Int) (hb : 0 ≤ b) (h : ∀ x ∈ l, 0 ≤ x ∧ x ≤ b) (n : Nat) : 0 ≤ l.getD n 0 ∧ l.getD n 0 ≤ b := by
  by_cases hn : n < l.length
  · rw [List.getD_eq_getElem?_getD, List.getElem?_eq_getElem hn]; exact h _ (List.getElem_mem hn)
  · rw [List.getD_eq_getElem?_getD, List.getElem?_eq_none (by omega)]; exact ⟨Int.le_refl _, hb⟩
theorem hc_tab : ∀ k, (hiB k - loB k).toNat ≤ 33 := fun k => by
  have h : ∀ x ∈ boundsL, 0 ≤ x ∧ x ≤ 33 := by decide
  have a := getD_le boundsL 33 (by decide) h k.toNat
  have b := getD_le boundsL 33 (by decide) h (k + 1).toNat
  have a' : 0 ≤ loB k ∧ loB k ≤ 33 := a
  have b' : 0 ≤ hiB k ∧ hiB k ≤ 33 := b
  omega
theorem wy_b (k : Int) : -1 ≤ wyB k ∧ wyB k ≤ 1 := by
  have h : ∀ x ∈ waysL, -1 ≤ x ∧ x ≤ 1 := by decide
  unfold wyB
  by_cases hn : k.toNat < waysL.length
  · rw [List.getD_eq_getElem?_getD, List.getElem?_eq_getElem hn]; exact h _ (List.getElem_mem hn)
  · rw [List.getD_eq_getElem?_getD, List.getElem?_eq_none (by omega)]; decide
theorem small_tab : ∀ a, a < 34 → ∀ b, b < 34 → Builtin.Range.small (a : Nat) (b : Nat) 1 = true := by decide +kernel
theorem small_at {a b : Int} (h1 : 0 ≤ a) (h2 : a ≤ b) (h3 : b ≤ 33) : Builtin.Range.small a b 1 = true := by
  have := small_tab a.toNat (by omega) b.toNat (by omega)
  rwa [show ((a.toNat : Nat) : Int) = a by omega, show ((b.toNat : Nat) : Int) = b by omega] at this
theorem allNe_lt {d : Addr} {l : List (Addr × Obj)} (h : ∀ p ∈ l, p.1 < d) : AllNe d l := allNe_of fun p hp => Nat.ne_of_lt (h p hp)
theorem law_keys {w : World} {A₀ : Around} {h₀ base : Heap} {mg mb : Str → Option Value} {p : Program} {loose : List Str} {mean : ExcName → Option Value} {dp un : Nat} {gd : Option (List Code)} {L fa : Addr} {cd : Value} {outer : List Env} {s : Shared} {Q : Flow → Shared → Prop} {E : Value → Shared → Prop}
    {c1 c2 c3 c4 c5 Wi l Bl Wl : Addr} {news : List (Addr × Obj)} {o2 o3 : Obj} {nW nB nY : Nat} {wv bv yv : Array Value} {ws : List (Int × Int)}
    (B : Below A₀ base outer h₀) (X : (hd.heap_1 w.params).In h₀) (T : Top p loose mean mg mb h₀) (hd : dp + 100 < recursionLimit) (hu : un + 8 * 100 < cLine)
    (F : Fr h₀ L s.heap (fun y => if y = Str.ofString "wishes" then some (.ref Wi) else if y = Str.ofString "script" then some (.ref l) else none))
    (N : News h₀ L s.heap news) (m2 : (c2, o2) ∈ news) (m3 : (c3, o3) ∈ news) (h2 : o2.data = .cell (some (.ref Bl))) (h3 : o3.data = .cell (some (.ref Wl)))
    (mB : (Bl, W.listOf bv nB) ∈ news) (iB : IntsAre bv.toList boundsL) (mY : (Wl, W.listOf yv nY) ∈ news) (iY : IntsAre yv.toList waysL)
    (hWi : (Wi, W.listOf wv nW) ∈ news) (hW : WishL wv news ws) (hwl : ws.length = 3) (hws : ∀ q ∈ ws, (0 ≤ q.1 ∧ q.1 < 5) ∧ (q.2 = 1 ∨ q.2 = -1))
    (fin : ∀ ys es D h tk, KeysL ys es (keysOf loB hiB wyB ws) → Fr h₀ L h (fun y => if y = Str.ofString "keys" then some (.ref D) else if y = Str.ofString "wishes" then some (.ref Wi) else if y = Str.ofString "script" then some (.ref l) else none) → News h₀ L h ((D, LCg.lst ys) :: (news ++ es)) → LCg.Off1 D (news ++ es) →
      wpAny (model PR w) (ktrTop dp un gd lawD.name lawD.scope L fa cd [(Str.ofString "two", c5), (Str.ofString "one", c4), (Str.ofString "ways", c3), (Str.ofString "bounds", c2), (Str.ofString "total", c1)] outer) (execs (lawD.body.drop 5) (envX lawD.name lawD.scope L fa cd [(Str.ofString "two", c5), (Str.ofString "one", c4), (Str.ofString "ways", c3), (Str.ofString "bounds", c2), (Str.ofString "total", c1)])) Q E { s with heap := h, toks := tk }) :
    wpAny (model PR w) (ktrTop dp un gd lawD.name lawD.scope L fa cd [(Str.ofString "two", c5), (Str.ofString "one", c4), (Str.ofString "ways", c3), (Str.ofString "bounds", c2), (Str.ofString "total", c1)] outer) (execs (lawD.body.drop 4) (envX lawD.name lawD.scope L fa cd [(Str.ofString "two", c5), (Str.ofString "one", c4), (Str.ofString "ways", c3), (Str.ofString "bounds", c2), (Str.ofString "total", c1)])) Q E s := by
  dsimp only [lawD, lawOf, List.drop] at fin ⊢
  iterate 1 (first | (first | ((with_reducible show wpAny _ _ (subscriptTail _ _ (Value.ref _) (Value.int _ _)) _ _ _); k_dflt (refine' item_led ?k1 ?k2 ?k3 ?k4 ?k5 ?_ ?k6; (case k1 => k_asm); (case k2 => with_reducible assumption); (case k3 => omega); (case k4 => omega); (case k5 => assumption); (case k6 => with_unfolding_all rfl); k_whole)) | walk1) | (dsimp only; (first | ((with_reducible show wpAny _ _ (subscriptTail _ _ (Value.ref _) (Value.int _ _)) _ _ _); k_dflt (refine' item_led ?k1 ?k2 ?k3 ?k4 ?k5 ?_ ?k6; (case k1 => k_asm); (case k2 => with_reducible assumption); (case k3 => omega); (case k4 => omega); (case k5 => assumption); (case k6 => with_unfolding_all rfl); k_whole)) | walk1)))
  have hsz : 33 * ws.length ≤ sizeLine := by rw [hwl, sizeLine_eq]; omega
  have hlo : ∀ k d, (k, d) ∈ ws → 0 ≤ loB k ∧ loB k ≤ hiB k ∧ hiB k ≤ 33 ∧ 0 ≤ k ∧ k < 5 := fun k d hm => by
    have q := (hws _ hm).1
    dsimp only at q
    have := lo_tab k.toNat (by omega)
    rw [show ((k.toNat : Nat) : Int) = k by omega] at this
    omega
  refine keys_assign (news := news) (ws := ws) (ax := Wi) (vs := wv) (cax := nW) (c := 33) loB hiB wyB F N rfl rfl (by with_unfolding_all rfl) (by with_unfolding_all rfl) (by decide) rfl (by decide) rfl rfl rfl (by decide) (by decide) rfl rfl (fun _ => rfl) (fun _ _ => rfl) ?src hWi hW ?hc hsz ?hsm (fun k d hm => (hlo k d hm).2.1) ?hrange ?helt ?fin
  case src =>
    iterate 1 (first | (first | ((with_reducible show wpAny _ _ (subscriptTail _ _ (Value.ref _) (Value.int _ _)) _ _ _); k_dflt (refine' item_led ?k1 ?k2 ?k3 ?k4 ?k5 ?_ ?k6; (case k1 => k_asm); (case k2 => with_reducible assumption); (case k3 => omega); (case k4 => omega); (case k5 => assumption); (case k6 => with_unfolding_all rfl); k_whole)) | walk1) | (dsimp only; (first | ((with_reducible show wpAny _ _ (subscriptTail _ _ (Value.ref _) (Value.int _ _)) _ _ _); k_dflt (refine' item_led ?k1 ?k2 ?k3 ?k4 ?k5 ?_ ?k6; (case k1 => k_asm); (case k2 => with_reducible assumption); (case k3 => omega); (case k4 => omega); (case k5 => assumption); (case k6 => with_unfolding_all rfl); k_whole)) | walk1)))
    exact ⟨rfl, rfl⟩
  case hc => exact hc_tab
  case hsm =>
    intro k d hm
    have := hlo k d hm
    exact small_at this.1 this.2.1 this.2.2.1
  case hrange =>
    intro k d t1 t2 I oI C oC D m₂ ys es h tk E' hm hC hx1 hx2 F9 N9
    have hk := hlo k d hm
    clear fin F N hW hws hlo
    generalize hn9 : (I, oI) :: (C, oC) :: (D, LCg.lst ys) :: (news ++ es) = news9 at N9 ⊢
    have zC : (C, oC) ∈ news9 := by rw [← hn9]; simp
    replace m2 : (c2, o2) ∈ news9 := by rw [← hn9]; simp [m2]
    replace mB : (Bl, W.listOf bv nB) ∈ news9 := by rw [← hn9]; simp [mB]
    obtain ⟨u1, r1⟩ := iB.get k.toNat _ (bd_tab k.toNat (by omega))
    obtain ⟨u2, r2⟩ := iB.get (k + 1).toNat _ (bd_tab (k + 1).toNat (by omega))
    have r1' : bv[k.toNat]? = some (.int (loB k) u1) := by rw [← Array.getElem?_toList]; exact r1
    have r2' : bv[(k + 1).toNat]? = some (.int (hiB k) u2) := by rw [← Array.getElem?_toList]; exact r2
    clear hn9 r1 r2
    generalize loB k = a at *
    generalize hiB k = b at *
    iterate 18 (first | (first | ((with_reducible show wpAny _ _ (subscriptTail _ _ (Value.ref _) (Value.int _ _)) _ _ _); k_dflt (refine' item_led ?k1 ?k2 ?k3 ?k4 ?k5 ?_ ?k6; (case k1 => k_asm); (case k2 => with_reducible assumption); (case k3 => omega); (case k4 => omega); (case k5 => assumption); (case k6 => with_unfolding_all rfl); k_whole)) | walk1) | (dsimp only; (first | ((with_reducible show wpAny _ _ (subscriptTail _ _ (Value.ref _) (Value.int _ _)) _ _ _); k_dflt (refine' item_led ?k1 ?k2 ?k3 ?k4 ?k5 ?_ ?k6; (case k1 => k_asm); (case k2 => with_reducible assumption); (case k3 => omega); (case k4 => omega); (case k5 => assumption); (case k6 => with_unfolding_all rfl); k_whole)) | walk1)))
    exact ⟨_, _, _, _, _, _, rfl, rfl, by k_asm, by k_asm, by assumption⟩
  case helt =>
    intro q k d t t2 I oI I2 oI2 C oC D m₂ ys es h tk E' hm hq1 hq2 hC hx1 hx2 F9 N9
    have hk := hlo q d hm
    have hd12 := (hws _ hm).2
    dsimp only at hd12
    clear fin F N hW hws hlo
    generalize hn9 : (I2, oI2) :: (I, oI) :: (C, oC) :: (D, LCg.lst ys) :: (news ++ es) = news9 at N9 ⊢
    have zC : (C, oC) ∈ news9 := by rw [← hn9]; simp
    replace m3 : (c3, o3) ∈ news9 := by rw [← hn9]; simp [m3]
    replace mY : (Wl, W.listOf yv nY) ∈ news9 := by rw [← hn9]; simp [mY]
    obtain ⟨u1, r1⟩ := iY.get k.toNat _ (wy_tabS k.toNat (by omega))
    have r1' : yv[k.toNat]? = some (.int (wyB k) u1) := by rw [← Array.getElem?_toList]; exact r1
    have hwb := wy_b k
    clear hn9 r1
    generalize wyB k = yb at *
    iterate 13 (first | (first | ((with_reducible show wpAny _ _ (subscriptTail _ _ (Value.ref _) (Value.int _ _)) _ _ _); k_dflt (refine' item_led ?k1 ?k2 ?k3 ?k4 ?k5 ?_ ?k6; (case k1 => k_asm); (case k2 => with_reducible assumption); (case k3 => omega); (case k4 => omega); (case k5 => assumption); (case k6 => with_unfolding_all rfl); k_whole)) | walk1) | (dsimp only; (first | ((with_reducible show wpAny _ _ (subscriptTail _ _ (Value.ref _) (Value.int _ _)) _ _ _); k_dflt (refine' item_led ?k1 ?k2 ?k3 ?k4 ?k5 ?_ ?k6; (case k1 => k_asm); (case k2 => with_reducible assumption); (case k3 => omega); (case k4 => omega); (case k5 => assumption); (case k6 => with_unfolding_all rfl); k_whole)) | walk1)))
    exact ⟨_, _, _, _, _, _, rfl, rfl, by k_asm, by k_asm, allNe_lt (by assumption)⟩
  case fin =>
    intro ys es D h tk hK F9 N9 o9
    exact fin ys es D h tk hK F9 N9 o9
end Mine
end

theorem Mine.fresh49 : True := by
  w_top off
  trivial
section
open PySem PySem.W PySem.Calls PySem.Spec PyProof.Rows
set_option maxRecDepth 100000
set_option maxHeartbeats 2000000
namespace Mine
theorem allLt_ne {d : Addr} : ∀ {l : List (Addr × Obj)}, AllLt d l → ∀ q ∈ l, q.1 ≠ d
  | [], _, _, hq => nomatch hq
  | _ :: _, h, q, hq => by
    rcases List.mem_cons.mp hq with rfl | hq
    · exact Nat.ne_of_lt h.1
    · exact allLt_ne h.2 q hq
theorem law_mid {w : World} {A₀ : Around} {h₀ base : Heap} {mg mb : Str → Option Value} {p : Program} {loose : List Str} {mean : ExcName → Option Value} {dp un : Nat} {gd : Option (List Code)} {L fa : Addr} {cd : Value} {outer : List Env} {s : Shared} {Q : Flow → Shared → Prop} {E : Value → Shared → Prop}
    {c1 c2 c3 c4 c5 Wi l : Addr} {NR : List (Addr × Obj)} {o2 o3 : Obj} {v2 v3 : Option Value}
    (B : Below A₀ base outer h₀) (X : (hd.heap_1 w.params).In h₀) (T : Top p loose mean mg mb h₀) (hd : dp + 100 < recursionLimit) (hu : un + 8 * 100 < cLine)
    (F : Fr h₀ L s.heap (fun y => if y = Str.ofString "wishes" then some (.ref Wi) else if y = Str.ofString "script" then some (.ref l) else none))
    (N : News h₀ L s.heap ((c2, o2) :: (c3, o3) :: NR)) (f2 : ∀ q ∈ NR, q.1 ≠ c2) (f3 : ∀ q ∈ NR, q.1 ≠ c3) (f23 : c2 ≠ c3) (h2 : o2.data = .cell v2) (h3 : o3.data = .cell v3)
    (fin : ∀ h tk o2' o3' Bl Wl nB nY (bv yv : Array Value), Fr h₀ L h (fun y => if y = Str.ofString "wishes" then some (.ref Wi) else if y = Str.ofString "script" then some (.ref l) else none) → o2'.data = .cell (some (.ref Bl)) → o3'.data = .cell (some (.ref Wl)) → IntsAre bv.toList boundsL → IntsAre yv.toList waysL →
      News h₀ L h ((c2, o2') :: (c3, o3') :: (Bl, W.listOf bv nB) :: (Wl, W.listOf yv nY) :: NR) →
      wpAny (model PR w) (ktrTop dp un gd lawD.name lawD.scope L fa cd [(Str.ofString "two", c5), (Str.ofString "one", c4), (Str.ofString "ways", c3), (Str.ofString "bounds", c2), (Str.ofString "total", c1)] outer) (execs (lawD.body.drop 4) (envX lawD.name lawD.scope L fa cd [(Str.ofString "two", c5), (Str.ofString "one", c4), (Str.ofString "ways", c3), (Str.ofString "bounds", c2), (Str.ofString "total", c1)])) Q E { s with heap := h, toks := tk }) :
    wpAny (model PR w) (ktrTop dp un gd lawD.name lawD.scope L fa cd [(Str.ofString "two", c5), (Str.ofString "one", c4), (Str.ofString "ways", c3), (Str.ofString "bounds", c2), (Str.ofString "total", c1)] outer) (execs (lawD.body.drop 2) (envX lawD.name lawD.scope L fa cd [(Str.ofString "two", c5), (Str.ofString "one", c4), (Str.ofString "ways", c3), (Str.ofString "bounds", c2), (Str.ofString "total", c1)])) Q E s := by
  dsimp only [lawD, lawOf, List.drop] at fin ⊢
  obtain ⟨news0, hn0, N0⟩ : ∃ news0, (∀ q ∈ (c2, o2) :: (c3, o3) :: NR, q ∈ news0) ∧ News h₀ L s.heap news0 := ⟨_, fun q hq => hq, N⟩
  clear N
  iterate 17 (first | walk1 | (dsimp only; walk1))
  rename_i Bl h9 F9 N9 l9
  have hb2 : Bl ≠ c2 := Ne.symm (Nat.ne_of_lt (l9 (c2, o2) (hn0 _ (.head _))))
  have hb3 : Bl ≠ c3 := Ne.symm (Nat.ne_of_lt (l9 (c3, o3) (hn0 _ (.tail _ (.head _)))))
  have N1 : News h₀ L h9 ((c2, o2) :: (Bl, W.listOf _ 0) :: (c3, o3) :: NR) := fun q hq => N9 q (by
    rcases List.mem_cons.mp hq with rfl | hq
    · exact .tail _ (hn0 _ (.head _))
    · rcases List.mem_cons.mp hq with rfl | hq
      · exact .head _
      · exact .tail _ (hn0 _ (.tail _ hq)))
  clear N9 l9 hn0
  refine storeX_C F9 N1 rfl (.head ?_) h2 ?_
  · intro q hq
    rcases List.mem_cons.mp hq with rfl | hq
    · exact hb2
    · rcases List.mem_cons.mp hq with rfl | hq
      · exact Ne.symm f23
      · exact f2 q hq
  intro h8 o2' F8 N8 h2'
  clear F9 N1
  obtain ⟨bv, nB, N7, iB⟩ : ∃ (bv : Array Value) (nB : Nat), News h₀ L h8 ((c2, o2') :: (Bl, W.listOf bv nB) :: (c3, o3) :: NR) ∧ IntsAre bv.toList boundsL := ⟨_, _, N8, .cons _ _ (.cons _ _ (.cons _ _ (.cons _ _ (.cons _ _ (.cons _ _ .nil)))))⟩
  obtain ⟨news1, hn1, N0⟩ : ∃ news1, (∀ q ∈ (c2, o2') :: (Bl, W.listOf bv nB) :: (c3, o3) :: NR, q ∈ news1) ∧ News h₀ L h8 news1 := ⟨_, fun q hq => hq, N7⟩
  clear N7
  clear N8
  iterate 45 (first | walk1 | (dsimp only; walk1))
  rename_i Wl h7 F7 N7 l7
  obtain ⟨yv, nY, eW, iY⟩ : ∃ (yv : Array Value) (nY : Nat), (h7.get? Wl = some (W.listOf yv nY) ∧ Wl ≠ L ∧ h₀.get? Wl = none) ∧ IntsAre yv.toList waysL := ⟨_, _, N7 _ List.mem_cons_self, by repeat (first | exact IntsAre.nil | refine IntsAre.cons _ _ ?_)⟩
  have ltW : ∀ q ∈ news1, q.1 ≠ Wl := fun q hq => allLt_ne l7.2.2.2.2.2.2.2.2 q hq
  have N5 : News h₀ L h7 ((c3, o3) :: (Wl, W.listOf yv nY) :: (c2, o2') :: (Bl, W.listOf bv nB) :: NR) := fun q hq => by
    have old : q ∈ news1 → h7.get? q.1 = some q.2 ∧ q.1 ≠ L ∧ h₀.get? q.1 = none := fun hm => N7 q (.tail _ (.tail _ (.tail _ (.tail _ (.tail _ (.tail _ (.tail _ (.tail _ (.tail _ hm)))))))))
    rcases List.mem_cons.mp hq with rfl | hq
    · exact old (hn1 _ (.tail _ (.tail _ (.head _))))
    · rcases List.mem_cons.mp hq with rfl | hq
      · exact eW
      · rcases List.mem_cons.mp hq with rfl | hq
        · exact old (hn1 _ (.head _))
        · rcases List.mem_cons.mp hq with rfl | hq
          · exact old (hn1 _ (.tail _ (.head _)))
          · exact old (hn1 _ (.tail _ (.tail _ (.tail _ hq))))
  have w3 := ltW (c3, o3) (hn1 _ (.tail _ (.tail _ (.head _))))
  clear N7 l7
  refine storeX_C F7 N5 rfl (.head ?_) h3 ?_
  · intro q hq
    rcases List.mem_cons.mp hq with rfl | hq
    · exact Ne.symm w3
    · rcases List.mem_cons.mp hq with rfl | hq
      · exact f23
      · rcases List.mem_cons.mp hq with rfl | hq
        · exact hb3
        · exact f3 q hq
  intro h6 o3' F6 N6 h3'
  refine fin h6 _ o2' o3' Bl Wl nB nY bv yv F6 h2' h3' iB iY (fun q hq => N6 q ?_)
  simp only [List.mem_cons] at hq ⊢
  rcases hq with h | h | h | h | h <;> simp [h]
end Mine
end

theorem Mine.fresh50 : True := by
  w_top off
  trivial
section
open PySem PySem.W PySem.Calls PySem.Spec PyProof.Rows
set_option maxRecDepth 100000
set_option maxHeartbeats 2000000
namespace Mine
section
variable {prog : Program} {w : World} {A : Around} {E : Value → Shared → Prop} {Q : Value → Shared → Prop} {s : Shared}
theorem pow_at {a n y : Int} {t u : Tok} (h1 : 0 ≤ n) (h2 : n ≤ 2) (h3 : a.natAbs ≤ 5) (hy : a ^ n.toNat = y) (h : ∀ t tk, Q (.int y t) { s with toks := tk }) : wpAny (model prog w) A (binaryOp .Pow (.int a t) (.int n u)) Q E s := by
  subst hy
  exact pow_int_small h1 (by omega) (by omega) (h _ _)
end
local macro_rules | `(tactic| k_mem) => `(tactic| with_reducible assumption)
noncomputable def wG (S : Int) (j : Nat) : Int := match j with | 0 => (S.fdiv 1).fmod 5 | 1 => (S.fdiv 5).fmod 5 | _ => (S.fdiv 25).fmod 5
noncomputable def wD (S : Int) (j : Nat) : Int := match j with | 0 => 1 - 2 * (S.fdiv (125 * 1)).fmod 2 | 1 => 1 - 2 * (S.fdiv (125 * 2)).fmod 2 | _ => 1 - 2 * (S.fdiv (125 * 4)).fmod 2
theorem ne_ad {a b : Nat} (h : a ≠ b) : @Ne Addr a b := h
theorem obj_ne {h₀ h : Heap} {L : Addr} {NL : List (Addr × Obj)} (N : News h₀ L h NL) {p q : Addr × Obj} (hm : p ∈ NL) (hc : q ∈ NL) (hv : p.2 ≠ q.2) : p.1 ≠ q.1 := fun e => by
  have e1 := (N _ hm).1
  have e2 := (N _ hc).1
  rw [e, e2] at e1
  exact hv (Option.some.inj e1).symm
theorem cell_ne {h₀ h : Heap} {L : Addr} {NL : List (Addr × Obj)} (N : News h₀ L h NL) {a c : Addr} {o oc : Obj} {v : Option Value} (hm : (a, o) ∈ NL) (hc : (c, oc) ∈ NL) (hv : oc.data = .cell v) (ho : ∀ v, o.data ≠ .cell v) : a ≠ c :=
  obj_ne N hm hc fun e => ho v (by rw [show o = oc from e]; exact hv)
theorem cells_off {D c a b : Addr} {oD o5 o4 : Obj} {t1 t2 : Obj} {es : List (Addr × Obj)} (k : D ≠ c ∧ (65 : Addr) ≠ c ∧ (58 : Addr) ≠ c ∧ ∀ q ∈ es, q.1 ≠ c) (ha : a ≠ c) (hb : b ≠ c) : ∀ q ∈ (D, oD) :: (a, o5) :: (b, o4) :: (65, t1) :: (58, t2) :: es, q.1 ≠ c := by
  intro q hq
  simp only [List.mem_cons] at hq
  rcases hq with rfl | rfl | rfl | rfl | rfl | hq
  · exact k.1
  · exact ha
  · exact hb
  · exact k.2.1
  · exact k.2.2.1
  · exact k.2.2.2 q hq
open Classical in
theorem wish_lists {ys : Array Value} {es : List (Addr × Obj)} {ws : List (Int × Int)} (h : WishL ys es ws) : ∃ es' : List (Addr × Obj), (∀ q ∈ es', q ∈ es) ∧ (∀ q ∈ es', ∃ its n, q.2 = W.listOf its n) ∧ WishL ys es' ws := by
  refine ⟨es.filter (fun q => decide (∃ its n, q.2 = W.listOf its n)), fun q hq => (List.mem_filter.mp hq).1, fun q hq => of_decide_eq_true (List.mem_filter.mp hq).2, h.1, fun i k d hi => ?_⟩
  obtain ⟨P, t1, t2, c, e1, e2⟩ := h.2 i k d hi
  exact ⟨P, t1, t2, c, e1, List.mem_filter.mpr ⟨e2, decide_eq_true ⟨_, _, rfl⟩⟩⟩
open Classical in
theorem keys_tuples {ys : List Value} {es : List (Addr × Obj)} {ks : List (Int × Int)} (h : KeysL ys es ks) : ∃ es' : List (Addr × Obj), (∀ q ∈ es', q ∈ es) ∧ (∀ q ∈ es', ∃ its n, q.2 = tupO its n) ∧ KeysL ys es' ks := by
  refine ⟨es.filter (fun q => decide (∃ its n, q.2 = tupO its n)), fun q hq => (List.mem_filter.mp hq).1, fun q hq => of_decide_eq_true (List.mem_filter.mp hq).2, h.1, fun i k d hi => ?_⟩
  obtain ⟨P, t1, t2, c, e1, e2⟩ := h.2 i k d hi
  exact ⟨P, t1, t2, c, e1, List.mem_filter.mpr ⟨e2, decide_eq_true ⟨_, _, rfl⟩⟩⟩
theorem way_pm {m : Int} (h : 0 ≤ m ∧ m < 2) : 1 - 2 * m = 1 ∨ 1 - 2 * m = -1 := by omega
theorem wish_ok (S : Int) : ∀ q ∈ (List.range 3).map (fun j => (wG S j, wD S j)), (0 ≤ q.1 ∧ q.1 < 5) ∧ (q.2 = 1 ∨ q.2 = -1) := by
  intro q hq
  obtain ⟨j, hj, rfl⟩ := List.mem_map.mp hq
  rw [List.mem_range] at hj
  have : j = 0 ∨ j = 1 ∨ j = 2 := by omega
  rcases this with rfl | rfl | rfl
  · have a := fm (x := S.fdiv 1) (b := 5) (by decide)
    have b := fm (x := S.fdiv (125 * 1)) (b := 2) (by decide)
    show (0 ≤ (S.fdiv 1).fmod 5 ∧ (S.fdiv 1).fmod 5 < 5) ∧ (1 - 2 * (S.fdiv (125 * 1)).fmod 2 = 1 ∨ 1 - 2 * (S.fdiv (125 * 1)).fmod 2 = -1)
    exact ⟨a, way_pm b⟩
  · have a := fm (x := S.fdiv 5) (b := 5) (by decide)
    have b := fm (x := S.fdiv (125 * 2)) (b := 2) (by decide)
    show (0 ≤ (S.fdiv 5).fmod 5 ∧ (S.fdiv 5).fmod 5 < 5) ∧ (1 - 2 * (S.fdiv (125 * 2)).fmod 2 = 1 ∨ 1 - 2 * (S.fdiv (125 * 2)).fmod 2 = -1)
    exact ⟨a, way_pm b⟩
  · have a := fm (x := S.fdiv 25) (b := 5) (by decide)
    have b := fm (x := S.fdiv (125 * 4)) (b := 2) (by decide)
    show (0 ≤ (S.fdiv 25).fmod 5 ∧ (S.fdiv 25).fmod 5 < 5) ∧ (1 - 2 * (S.fdiv (125 * 4)).fmod 2 = 1 ∨ 1 - 2 * (S.fdiv (125 * 4)).fmod 2 = -1)
    exact ⟨a, way_pm b⟩
theorem law_head {w : World} {A₀ : Around} {h₀ base : Heap} {mg mb : Str → Option Value} {p : Program} {loose : List Str} {mean : ExcName → Option Value} {dp un : Nat} {gd : Option (List Code)} {L : Nat} {fa : Addr} {cd : Value} {outer : List Env} {s : Shared} {Q : Flow → Shared → Prop} {E : Value → Shared → Prop}
    {l : Addr} {vs : List Value} {xs : List Int} {o1 o2 o3 o4 o5 : Obj} {m : Str → Option Value}
    (B : Below A₀ base outer h₀) (X : (hd.heap_1 w.params).In h₀) (T : Top p loose mean mg mb h₀) (hd : dp + 100 < recursionLimit) (hu : un + 8 * 100 < cLine)
    (hl : h₀.IsList l vs.toArray) (hI : IntsAre vs xs) (hlen : ¬ (63 : Int) < (xs.length : Int))
    (F : Fr h₀ L s.heap (fun y => if y = Str.ofString "script" then some (.ref l) else none)) (N : News h₀ L s.heap [(L + 1 + 1 + 1 + 1 + 1, o5), (L + 1 + 1 + 1 + 1, o4), (L + 1 + 1 + 1, o3), (L + 1 + 1, o2), (L + 1, o1), (65, tabObj #[]), (58, tabObj #[])])
    (l0 : 65 < L ∧ 58 < L)
    (h1 : o1.data = .cell none) (h2 : o2.data = .cell none) (h3 : o3.data = .cell none) (h4 : o4.data = .cell none) (h5 : o5.data = .cell none)
    (hE : PassesOwn (model PR w) (ktrTop dp un gd lawD.name lawD.scope L fa cd [(Str.ofString "two", L + 1 + 1 + 1 + 1 + 1), (Str.ofString "one", L + 1 + 1 + 1 + 1), (Str.ofString "ways", L + 1 + 1 + 1), (Str.ofString "bounds", L + 1 + 1), (Str.ofString "total", L + 1)] outer) (envX lawD.name lawD.scope L fa cd [(Str.ofString "two", L + 1 + 1 + 1 + 1 + 1), (Str.ofString "one", L + 1 + 1 + 1 + 1), (Str.ofString "ways", L + 1 + 1 + 1), (Str.ofString "bounds", L + 1 + 1), (Str.ofString "total", L + 1)]) E)
    (hQ : ∀ h' tk' m' t5 t8 c5' c8' o5' o8', Fr h₀ L h' m' → News h₀ L h' (tail4 t5 t8 c5' c8' o5' o8') → Tabs t5 t8 c5' c8' o5' o8' → Q (.ret (.bool true)) { s with heap := h', toks := tk' }) :
    wpAny (model PR w) (ktrTop dp un gd lawD.name lawD.scope L fa cd [(Str.ofString "two", L + 1 + 1 + 1 + 1 + 1), (Str.ofString "one", L + 1 + 1 + 1 + 1), (Str.ofString "ways", L + 1 + 1 + 1), (Str.ofString "bounds", L + 1 + 1), (Str.ofString "total", L + 1)] outer) (execs lawD.body (envX lawD.name lawD.scope L fa cd [(Str.ofString "two", L + 1 + 1 + 1 + 1 + 1), (Str.ofString "one", L + 1 + 1 + 1 + 1), (Str.ofString "ways", L + 1 + 1 + 1), (Str.ofString "bounds", L + 1 + 1), (Str.ofString "total", L + 1)])) Q E s := by
  dsimp only [lawD, lawOf]
  iterate 15 (first | (k_unfold; (try dsimp only)) | (first | ((with_reducible show wpAny _ _ (binaryOp _ (Value.int 2 _) (Value.int 2 _)) _ _ _); k_dflt (refine' pow_at (y := 4) (by decide) (by decide) (by decide) (by decide) ?_); intro t9_z tk9_z) | ((with_reducible show wpAny _ _ (binaryOp _ (Value.int 2 _) (Value.int 1 _)) _ _ _); k_dflt (refine' pow_at (y := 2) (by decide) (by decide) (by decide) (by decide) ?_); intro t9_z tk9_z) | ((with_reducible show wpAny _ _ (binaryOp _ (Value.int 2 _) (Value.int 0 _)) _ _ _); k_dflt (refine' pow_at (y := 1) (by decide) (by decide) (by decide) (by decide) ?_); intro t9_z tk9_z) | ((with_reducible show wpAny _ _ (binaryOp _ (Value.int 5 _) (Value.int 2 _)) _ _ _); k_dflt (refine' pow_at (y := 25) (by decide) (by decide) (by decide) (by decide) ?_); intro t9_z tk9_z) | ((with_reducible show wpAny _ _ (binaryOp _ (Value.int 5 _) (Value.int 1 _)) _ _ _); k_dflt (refine' pow_at (y := 5) (by decide) (by decide) (by decide) (by decide) ?_); intro t9_z tk9_z) | ((with_reducible show wpAny _ _ (binaryOp _ (Value.int 5 _) (Value.int 0 _)) _ _ _); k_dflt (refine' pow_at (y := 1) (by decide) (by decide) (by decide) (by decide) ?_); intro t9_z tk9_z) | walk1) | (dsimp only; (first | ((with_reducible show wpAny _ _ (binaryOp _ (Value.int 2 _) (Value.int 2 _)) _ _ _); k_dflt (refine' pow_at (y := 4) (by decide) (by decide) (by decide) (by decide) ?_); intro t9_z tk9_z) | ((with_reducible show wpAny _ _ (binaryOp _ (Value.int 2 _) (Value.int 1 _)) _ _ _); k_dflt (refine' pow_at (y := 2) (by decide) (by decide) (by decide) (by decide) ?_); intro t9_z tk9_z) | ((with_reducible show wpAny _ _ (binaryOp _ (Value.int 2 _) (Value.int 0 _)) _ _ _); k_dflt (refine' pow_at (y := 1) (by decide) (by decide) (by decide) (by decide) ?_); intro t9_z tk9_z) | ((with_reducible show wpAny _ _ (binaryOp _ (Value.int 5 _) (Value.int 2 _)) _ _ _); k_dflt (refine' pow_at (y := 25) (by decide) (by decide) (by decide) (by decide) ?_); intro t9_z tk9_z) | ((with_reducible show wpAny _ _ (binaryOp _ (Value.int 5 _) (Value.int 1 _)) _ _ _); k_dflt (refine' pow_at (y := 5) (by decide) (by decide) (by decide) (by decide) ?_); intro t9_z tk9_z) | ((with_reducible show wpAny _ _ (binaryOp _ (Value.int 5 _) (Value.int 0 _)) _ _ _); k_dflt (refine' pow_at (y := 1) (by decide) (by decide) (by decide) (by decide) ?_); intro t9_z tk9_z) | walk1)))
  rename Obj => o1'
  rename News _ _ _ _ => NA
  rename Fr _ _ _ _ => FA
  clear h1
  refine pairs_comp (news := [(L + 1 + 1 + 1 + 1 + 1, o5), (L + 1 + 1 + 1 + 1, o4), (L + 1 + 1 + 1, o3), (L + 1 + 1, o2), (L + 1, o1'), (65, tabObj #[]), (58, tabObj #[])]) (n := 3) (wG (xs.sum + 55)) (wD (xs.sum + 55)) FA rfl (by with_unfolding_all rfl) (by with_unfolding_all rfl) (by decide) rfl (by decide) rfl rfl rfl rfl (fun _ => rfl) (by rw [sizeLine_eq]; omega) (by decide) ?src1 ?elt1 ?fin1
  case src1 =>
    iterate 7 (first | (first | ((with_reducible show wpAny _ _ (binaryOp _ (Value.int 2 _) (Value.int 2 _)) _ _ _); k_dflt (refine' pow_at (y := 4) (by decide) (by decide) (by decide) (by decide) ?_); intro t9_z tk9_z) | ((with_reducible show wpAny _ _ (binaryOp _ (Value.int 2 _) (Value.int 1 _)) _ _ _); k_dflt (refine' pow_at (y := 2) (by decide) (by decide) (by decide) (by decide) ?_); intro t9_z tk9_z) | ((with_reducible show wpAny _ _ (binaryOp _ (Value.int 2 _) (Value.int 0 _)) _ _ _); k_dflt (refine' pow_at (y := 1) (by decide) (by decide) (by decide) (by decide) ?_); intro t9_z tk9_z) | ((with_reducible show wpAny _ _ (binaryOp _ (Value.int 5 _) (Value.int 2 _)) _ _ _); k_dflt (refine' pow_at (y := 25) (by decide) (by decide) (by decide) (by decide) ?_); intro t9_z tk9_z) | ((with_reducible show wpAny _ _ (binaryOp _ (Value.int 5 _) (Value.int 1 _)) _ _ _); k_dflt (refine' pow_at (y := 5) (by decide) (by decide) (by decide) (by decide) ?_); intro t9_z tk9_z) | ((with_reducible show wpAny _ _ (binaryOp _ (Value.int 5 _) (Value.int 0 _)) _ _ _); k_dflt (refine' pow_at (y := 1) (by decide) (by decide) (by decide) (by decide) ?_); intro t9_z tk9_z) | walk1) | (dsimp only; (first | ((with_reducible show wpAny _ _ (binaryOp _ (Value.int 2 _) (Value.int 2 _)) _ _ _); k_dflt (refine' pow_at (y := 4) (by decide) (by decide) (by decide) (by decide) ?_); intro t9_z tk9_z) | ((with_reducible show wpAny _ _ (binaryOp _ (Value.int 2 _) (Value.int 1 _)) _ _ _); k_dflt (refine' pow_at (y := 2) (by decide) (by decide) (by decide) (by decide) ?_); intro t9_z tk9_z) | ((with_reducible show wpAny _ _ (binaryOp _ (Value.int 2 _) (Value.int 0 _)) _ _ _); k_dflt (refine' pow_at (y := 1) (by decide) (by decide) (by decide) (by decide) ?_); intro t9_z tk9_z) | ((with_reducible show wpAny _ _ (binaryOp _ (Value.int 5 _) (Value.int 2 _)) _ _ _); k_dflt (refine' pow_at (y := 25) (by decide) (by decide) (by decide) (by decide) ?_); intro t9_z tk9_z) | ((with_reducible show wpAny _ _ (binaryOp _ (Value.int 5 _) (Value.int 1 _)) _ _ _); k_dflt (refine' pow_at (y := 5) (by decide) (by decide) (by decide) (by decide) ?_); intro t9_z tk9_z) | ((with_reducible show wpAny _ _ (binaryOp _ (Value.int 5 _) (Value.int 0 _)) _ _ _); k_dflt (refine' pow_at (y := 1) (by decide) (by decide) (by decide) (by decide) ?_); intro t9_z tk9_z) | walk1)))
    exact ⟨_, _, _, _, _, _, rfl, rfl, by k_asm, by k_asm, by assumption⟩
  case elt1 =>
    intro j t I oI C oC D m₂ ys es h tk E' hj hC hx F9 N9
    clear FA NA hE hQ
    generalize hn9 : (I, oI) :: (C, oC) :: (D, LCg.lst ys) :: (es ++ [(L + 1 + 1 + 1 + 1 + 1, o5), (L + 1 + 1 + 1 + 1, o4), (L + 1 + 1 + 1, o3), (L + 1 + 1, o2), (L + 1, o1'), (65, tabObj #[]), (58, tabObj #[])]) = news9 at N9 ⊢
    have zC : (C, oC) ∈ news9 := by rw [← hn9]; simp
    have z1 : (L + 1, o1') ∈ news9 := by rw [← hn9]; simp
    clear hn9
    have hj' : j = 0 ∨ j = 1 ∨ j = 2 := by omega
    rcases hj' with rfl | rfl | rfl
    · have hx' : m₂ (Str.ofString "n") = some (.int 0 t) := hx
      clear hx
      iterate 34 (first | (first | ((with_reducible show wpAny _ _ (binaryOp _ (Value.int 2 _) (Value.int 2 _)) _ _ _); k_dflt (refine' pow_at (y := 4) (by decide) (by decide) (by decide) (by decide) ?_); intro t9_z tk9_z) | ((with_reducible show wpAny _ _ (binaryOp _ (Value.int 2 _) (Value.int 1 _)) _ _ _); k_dflt (refine' pow_at (y := 2) (by decide) (by decide) (by decide) (by decide) ?_); intro t9_z tk9_z) | ((with_reducible show wpAny _ _ (binaryOp _ (Value.int 2 _) (Value.int 0 _)) _ _ _); k_dflt (refine' pow_at (y := 1) (by decide) (by decide) (by decide) (by decide) ?_); intro t9_z tk9_z) | ((with_reducible show wpAny _ _ (binaryOp _ (Value.int 5 _) (Value.int 2 _)) _ _ _); k_dflt (refine' pow_at (y := 25) (by decide) (by decide) (by decide) (by decide) ?_); intro t9_z tk9_z) | ((with_reducible show wpAny _ _ (binaryOp _ (Value.int 5 _) (Value.int 1 _)) _ _ _); k_dflt (refine' pow_at (y := 5) (by decide) (by decide) (by decide) (by decide) ?_); intro t9_z tk9_z) | ((with_reducible show wpAny _ _ (binaryOp _ (Value.int 5 _) (Value.int 0 _)) _ _ _); k_dflt (refine' pow_at (y := 1) (by decide) (by decide) (by decide) (by decide) ?_); intro t9_z tk9_z) | walk1) | (dsimp only; (first | ((with_reducible show wpAny _ _ (binaryOp _ (Value.int 2 _) (Value.int 2 _)) _ _ _); k_dflt (refine' pow_at (y := 4) (by decide) (by decide) (by decide) (by decide) ?_); intro t9_z tk9_z) | ((with_reducible show wpAny _ _ (binaryOp _ (Value.int 2 _) (Value.int 1 _)) _ _ _); k_dflt (refine' pow_at (y := 2) (by decide) (by decide) (by decide) (by decide) ?_); intro t9_z tk9_z) | ((with_reducible show wpAny _ _ (binaryOp _ (Value.int 2 _) (Value.int 0 _)) _ _ _); k_dflt (refine' pow_at (y := 1) (by decide) (by decide) (by decide) (by decide) ?_); intro t9_z tk9_z) | ((with_reducible show wpAny _ _ (binaryOp _ (Value.int 5 _) (Value.int 2 _)) _ _ _); k_dflt (refine' pow_at (y := 25) (by decide) (by decide) (by decide) (by decide) ?_); intro t9_z tk9_z) | ((with_reducible show wpAny _ _ (binaryOp _ (Value.int 5 _) (Value.int 1 _)) _ _ _); k_dflt (refine' pow_at (y := 5) (by decide) (by decide) (by decide) (by decide) ?_); intro t9_z tk9_z) | ((with_reducible show wpAny _ _ (binaryOp _ (Value.int 5 _) (Value.int 0 _)) _ _ _); k_dflt (refine' pow_at (y := 1) (by decide) (by decide) (by decide) (by decide) ?_); intro t9_z tk9_z) | walk1)))
      rename News _ _ _ _ => NQ
      exact ⟨_, _, _, _, _, _, rfl, rfl, by k_asm, NQ, by assumption⟩
    · have hx' : m₂ (Str.ofString "n") = some (.int 1 t) := hx
      clear hx
      iterate 34 (first | (first | ((with_reducible show wpAny _ _ (binaryOp _ (Value.int 2 _) (Value.int 2 _)) _ _ _); k_dflt (refine' pow_at (y := 4) (by decide) (by decide) (by decide) (by decide) ?_); intro t9_z tk9_z) | ((with_reducible show wpAny _ _ (binaryOp _ (Value.int 2 _) (Value.int 1 _)) _ _ _); k_dflt (refine' pow_at (y := 2) (by decide) (by decide) (by decide) (by decide) ?_); intro t9_z tk9_z) | ((with_reducible show wpAny _ _ (binaryOp _ (Value.int 2 _) (Value.int 0 _)) _ _ _); k_dflt (refine' pow_at (y := 1) (by decide) (by decide) (by decide) (by decide) ?_); intro t9_z tk9_z) | ((with_reducible show wpAny _ _ (binaryOp _ (Value.int 5 _) (Value.int 2 _)) _ _ _); k_dflt (refine' pow_at (y := 25) (by decide) (by decide) (by decide) (by decide) ?_); intro t9_z tk9_z) | ((with_reducible show wpAny _ _ (binaryOp _ (Value.int 5 _) (Value.int 1 _)) _ _ _); k_dflt (refine' pow_at (y := 5) (by decide) (by decide) (by decide) (by decide) ?_); intro t9_z tk9_z) | ((with_reducible show wpAny _ _ (binaryOp _ (Value.int 5 _) (Value.int 0 _)) _ _ _); k_dflt (refine' pow_at (y := 1) (by decide) (by decide) (by decide) (by decide) ?_); intro t9_z tk9_z) | walk1) | (dsimp only; (first | ((with_reducible show wpAny _ _ (binaryOp _ (Value.int 2 _) (Value.int 2 _)) _ _ _); k_dflt (refine' pow_at (y := 4) (by decide) (by decide) (by decide) (by decide) ?_); intro t9_z tk9_z) | ((with_reducible show wpAny _ _ (binaryOp _ (Value.int 2 _) (Value.int 1 _)) _ _ _); k_dflt (refine' pow_at (y := 2) (by decide) (by decide) (by decide) (by decide) ?_); intro t9_z tk9_z) | ((with_reducible show wpAny _ _ (binaryOp _ (Value.int 2 _) (Value.int 0 _)) _ _ _); k_dflt (refine' pow_at (y := 1) (by decide) (by decide) (by decide) (by decide) ?_); intro t9_z tk9_z) | ((with_reducible show wpAny _ _ (binaryOp _ (Value.int 5 _) (Value.int 2 _)) _ _ _); k_dflt (refine' pow_at (y := 25) (by decide) (by decide) (by decide) (by decide) ?_); intro t9_z tk9_z) | ((with_reducible show wpAny _ _ (binaryOp _ (Value.int 5 _) (Value.int 1 _)) _ _ _); k_dflt (refine' pow_at (y := 5) (by decide) (by decide) (by decide) (by decide) ?_); intro t9_z tk9_z) | ((with_reducible show wpAny _ _ (binaryOp _ (Value.int 5 _) (Value.int 0 _)) _ _ _); k_dflt (refine' pow_at (y := 1) (by decide) (by decide) (by decide) (by decide) ?_); intro t9_z tk9_z) | walk1)))
      rename News _ _ _ _ => NQ
      exact ⟨_, _, _, _, _, _, rfl, rfl, by k_asm, NQ, by assumption⟩
    · have hx' : m₂ (Str.ofString "n") = some (.int 2 t) := hx
      clear hx
      iterate 34 (first | (first | ((with_reducible show wpAny _ _ (binaryOp _ (Value.int 2 _) (Value.int 2 _)) _ _ _); k_dflt (refine' pow_at (y := 4) (by decide) (by decide) (by decide) (by decide) ?_); intro t9_z tk9_z) | ((with_reducible show wpAny _ _ (binaryOp _ (Value.int 2 _) (Value.int 1 _)) _ _ _); k_dflt (refine' pow_at (y := 2) (by decide) (by decide) (by decide) (by decide) ?_); intro t9_z tk9_z) | ((with_reducible show wpAny _ _ (binaryOp _ (Value.int 2 _) (Value.int 0 _)) _ _ _); k_dflt (refine' pow_at (y := 1) (by decide) (by decide) (by decide) (by decide) ?_); intro t9_z tk9_z) | ((with_reducible show wpAny _ _ (binaryOp _ (Value.int 5 _) (Value.int 2 _)) _ _ _); k_dflt (refine' pow_at (y := 25) (by decide) (by decide) (by decide) (by decide) ?_); intro t9_z tk9_z) | ((with_reducible show wpAny _ _ (binaryOp _ (Value.int 5 _) (Value.int 1 _)) _ _ _); k_dflt (refine' pow_at (y := 5) (by decide) (by decide) (by decide) (by decide) ?_); intro t9_z tk9_z) | ((with_reducible show wpAny _ _ (binaryOp _ (Value.int 5 _) (Value.int 0 _)) _ _ _); k_dflt (refine' pow_at (y := 1) (by decide) (by decide) (by decide) (by decide) ?_); intro t9_z tk9_z) | walk1) | (dsimp only; (first | ((with_reducible show wpAny _ _ (binaryOp _ (Value.int 2 _) (Value.int 2 _)) _ _ _); k_dflt (refine' pow_at (y := 4) (by decide) (by decide) (by decide) (by decide) ?_); intro t9_z tk9_z) | ((with_reducible show wpAny _ _ (binaryOp _ (Value.int 2 _) (Value.int 1 _)) _ _ _); k_dflt (refine' pow_at (y := 2) (by decide) (by decide) (by decide) (by decide) ?_); intro t9_z tk9_z) | ((with_reducible show wpAny _ _ (binaryOp _ (Value.int 2 _) (Value.int 0 _)) _ _ _); k_dflt (refine' pow_at (y := 1) (by decide) (by decide) (by decide) (by decide) ?_); intro t9_z tk9_z) | ((with_reducible show wpAny _ _ (binaryOp _ (Value.int 5 _) (Value.int 2 _)) _ _ _); k_dflt (refine' pow_at (y := 25) (by decide) (by decide) (by decide) (by decide) ?_); intro t9_z tk9_z) | ((with_reducible show wpAny _ _ (binaryOp _ (Value.int 5 _) (Value.int 1 _)) _ _ _); k_dflt (refine' pow_at (y := 5) (by decide) (by decide) (by decide) (by decide) ?_); intro t9_z tk9_z) | ((with_reducible show wpAny _ _ (binaryOp _ (Value.int 5 _) (Value.int 0 _)) _ _ _); k_dflt (refine' pow_at (y := 1) (by decide) (by decide) (by decide) (by decide) ?_); intro t9_z tk9_z) | walk1)))
      rename News _ _ _ _ => NQ
      exact ⟨_, _, _, _, _, _, rfl, rfl, by k_asm, NQ, by assumption⟩
  case fin1 =>
    intro ys es D h tk hW F9 N9 o9
    clear FA NA
    have hws : ∀ q ∈ (List.range 3).map (fun j => (wG (xs.sum + 55) j, wD (xs.sum + 55) j)), (0 ≤ q.1 ∧ q.1 < 5) ∧ (q.2 = 1 ∨ q.2 = -1) := wish_ok _
    have hwl : ((List.range 3).map (fun j => (wG (xs.sum + 55) j, wD (xs.sum + 55) j))).length = 3 := by simp
    generalize (List.range 3).map (fun j => (wG (xs.sum + 55) j, wD (xs.sum + 55) j)) = ws at *
    obtain ⟨es', hsub, hlst, hW'⟩ := wish_lists hW
    have N8 : News h₀ L h ((L + 1 + 1, o2) :: (L + 1 + 1 + 1, o3) :: ((D, W.listOf ys.toArray ys.length) :: (L + 1 + 1 + 1 + 1 + 1, o5) :: (L + 1 + 1 + 1 + 1, o4) :: (65, tabObj #[]) :: (58, tabObj #[]) :: es')) := fun q hq => N9 q (by
      simp only [List.mem_cons, List.mem_append, List.not_mem_nil, or_false] at hq ⊢
      rcases hq with h | h | h | h | h | h | h | h
      · simp [h]
      · simp [h]
      · simp [h]
      · simp [h]
      · simp [h]
      · simp [h]
      · simp [h]
      · exact .inr (.inl (hsub q h)))
    have nc : ∀ {c : Addr} {oc : Obj} {v : Option Value}, (c, oc) ∈ (L + 1 + 1, o2) :: (L + 1 + 1 + 1, o3) :: ((D, W.listOf ys.toArray ys.length) :: (L + 1 + 1 + 1 + 1 + 1, o5) :: (L + 1 + 1 + 1 + 1, o4) :: (65, tabObj #[]) :: (58, tabObj #[]) :: es') → oc.data = .cell v →
        D ≠ c ∧ (65 : Addr) ≠ c ∧ (58 : Addr) ≠ c ∧ ∀ q ∈ es', q.1 ≠ c := by
      intro c oc v hc hv
      refine ⟨cell_ne N8 (.tail _ (.tail _ (.head _))) hc hv (fun v e => nomatch e), cell_ne N8 (o := tabObj #[]) (by simp) hc hv (fun v e => nomatch e), cell_ne N8 (o := tabObj #[]) (by simp) hc hv (fun v e => nomatch e), fun q hq => ?_⟩
      obtain ⟨its, n, e⟩ := hlst q hq
      exact cell_ne N8 (o := q.2) (by simp [hq]) hc hv (fun v e' => by rw [e] at e'; cases e')
    have k2 := nc (.head _) h2
    have k3 := nc (.tail _ (.head _)) h3
    refine law_mid B X T hd hu F9 N8 ?f2 ?f3 (ne_ad (by omega)) h2 h3 ?fin
    case f2 => exact cells_off k2 (ne_ad (by omega)) (ne_ad (by omega))
    case f3 => exact cells_off k3 (ne_ad (by omega)) (ne_ad (by omega))
    case fin =>
      clear N8 N9 k2 k3 nc
      intro h1' tk1 o2' o3' Bl Wl nB nY bv yv F7 h2' h3' iB iY N7
      refine law_keys B X T hd hu F7 N7 (.head _) (.tail _ (.head _)) h2' h3' (.tail _ (.tail _ (.head _))) iB (.tail _ (.tail _ (.tail _ (.head _)))) iY (.tail _ (.tail _ (.tail _ (.tail _ (.head _))))) (wishL_mono hW' (fun q hq => by simp [hq])) hwl hws ?fin
      case fin =>
        intro kv es2 D2 h3'' tk3 hK F6 N6 o6
        obtain ⟨es2', hsub2, htup, hK'⟩ := keys_tuples hK
        have N5 : News h₀ L h3'' (((L + 1 + 1 + 1 + 1, o4) :: (L + 1 + 1 + 1 + 1 + 1, o5) :: (D2, W.listOf kv.toArray kv.length) :: (D, W.listOf ys.toArray ys.length) :: (es' ++ es2')) ++ tail4 (tabObj #[]) (tabObj #[]) 65 58 (tabObj #[]) (tabObj #[])) := fun q hq => N6 q (by
          simp only [tail4, List.mem_cons, List.mem_append, List.not_mem_nil, or_false, List.cons_append] at hq ⊢
          rcases hq with h | h | h | h | ((h | h) | (h | h | h | h))
          · simp [h]
          · simp [h]
          · simp [h]
          · simp [h]
          · simp [h]
          · simp [hsub2 q h]
          · simp [h]
          · simp [h]
          · simp [h]
          · simp [h])
        have lt : ∀ q ∈ (D2, W.listOf kv.toArray kv.length) :: (D, W.listOf ys.toArray ys.length) :: (es' ++ es2'), ∃ its n, q.2.data = .seq its n := by
          intro q hq
          rcases List.mem_cons.mp hq with rfl | hq
          · exact ⟨_, _, rfl⟩
          · rcases List.mem_cons.mp hq with rfl | hq
            · exact ⟨_, _, rfl⟩
            · rcases List.mem_append.mp hq with hq | hq
              · obtain ⟨its, n, e⟩ := hlst q hq
                exact ⟨its, n, by rw [e]⟩
              · obtain ⟨its, n, e⟩ := htup q hq
                exact ⟨its, n, by rw [e]⟩
        have m4 : (L + 1 + 1 + 1 + 1, o4) ∈ ((L + 1 + 1 + 1 + 1, o4) :: (L + 1 + 1 + 1 + 1 + 1, o5) :: (D2, W.listOf kv.toArray kv.length) :: (D, W.listOf ys.toArray ys.length) :: (es' ++ es2')) ++ tail4 (tabObj #[]) (tabObj #[]) 65 58 (tabObj #[]) (tabObj #[]) := .head _
        have m5 : (L + 1 + 1 + 1 + 1 + 1, o5) ∈ ((L + 1 + 1 + 1 + 1, o4) :: (L + 1 + 1 + 1 + 1 + 1, o5) :: (D2, W.listOf kv.toArray kv.length) :: (D, W.listOf ys.toArray ys.length) :: (es' ++ es2')) ++ tail4 (tabObj #[]) (tabObj #[]) 65 58 (tabObj #[]) (tabObj #[]) := .tail _ (.head _)
        have inN : ∀ q ∈ (D2, W.listOf kv.toArray kv.length) :: (D, W.listOf ys.toArray ys.length) :: (es' ++ es2'), q ∈ ((L + 1 + 1 + 1 + 1, o4) :: (L + 1 + 1 + 1 + 1 + 1, o5) :: (D2, W.listOf kv.toArray kv.length) :: (D, W.listOf ys.toArray ys.length) :: (es' ++ es2')) ++ tail4 (tabObj #[]) (tabObj #[]) 65 58 (tabObj #[]) (tabObj #[]) := fun q hq => List.mem_append_left _ (.tail _ (.tail _ hq))
        have offc : ∀ {c : Addr} {oc : Obj} {v : Option Value}, (c, oc) ∈ ((L + 1 + 1 + 1 + 1, o4) :: (L + 1 + 1 + 1 + 1 + 1, o5) :: (D2, W.listOf kv.toArray kv.length) :: (D, W.listOf ys.toArray ys.length) :: (es' ++ es2')) ++ tail4 (tabObj #[]) (tabObj #[]) 65 58 (tabObj #[]) (tabObj #[]) → oc.data = .cell v → ∀ q ∈ (D2, W.listOf kv.toArray kv.length) :: (D, W.listOf ys.toArray ys.length) :: (es' ++ es2'), q.1 ≠ c := by
          intro c oc v hc hv q hq
          obtain ⟨its, n, e⟩ := lt q hq
          exact cell_ne N5 (o := q.2) (inN q hq) hc hv (fun v e' => by rw [e] at e'; cases e')
        refine law_judge B X T hd hu hl hI hlen F6 N5 ?hR h4 h5 (offc m4 h4) (offc m5 h5) (ne_ad (by omega)) (.head _) ?kl (keysL_mono hK' (fun q hq => by simp [hq])) (.tail _ (.head _)) (wishL_mono hW' (fun q hq => by simp [hq])) hws hE hQ
        case kl =>
          have z1 := hK.1
          have z2 := keysOf_len hc_tab (wy := wyB) ws
          rw [hwl] at z2
          omega
        case hR =>
          intro q hq
          rcases List.mem_cons.mp hq with rfl | hq
          · exact ⟨ne_ad (by omega), ne_ad (by omega), ne_ad (by omega), ne_ad (by omega)⟩
          · rcases List.mem_cons.mp hq with rfl | hq
            · exact ⟨ne_ad (by omega), ne_ad (by omega), ne_ad (by omega), ne_ad (by omega)⟩
            · obtain ⟨its, n, e⟩ := lt q hq
              have x65 := obj_ne N5 (inN q hq) (List.mem_append_right _ (List.Mem.head _)) (fun e' => by rw [e'] at e; cases e)
              have x58 := obj_ne N5 (inN q hq) (List.mem_append_right _ (List.Mem.tail _ (List.Mem.head _))) (fun e' => by rw [e'] at e; cases e)
              exact ⟨x65, x58, x65, x58⟩
end Mine
end

section
open PySem PySem.W PySem.Calls PySem.Spec PyProof.Rows
set_option maxRecDepth 100000
set_option maxHeartbeats 1000000
namespace Mine
theorem law_cells (L : Nat) : cellsFrom (L + 1) lawD.scope.names [] = [(Str.ofString "two", L + 1 + 1 + 1 + 1 + 1), (Str.ofString "one", L + 1 + 1 + 1 + 1), (Str.ofString "ways", L + 1 + 1 + 1), (Str.ofString "bounds", L + 1 + 1), (Str.ofString "total", L + 1)] := by
  dsimp only [lawD, lawOf]
  rfl
theorem law_env (L : Nat) (fa : Addr) (cd : Value) : envOfC lawD.name lawD.scope L fa cd = envX lawD.name lawD.scope L fa cd [(Str.ofString "two", L + 1 + 1 + 1 + 1 + 1), (Str.ofString "one", L + 1 + 1 + 1 + 1), (Str.ofString "ways", L + 1 + 1 + 1), (Str.ofString "bounds", L + 1 + 1), (Str.ofString "total", L + 1)] := by
  unfold envOfC
  rw [law_cells]
theorem law_top {w : World} {A₀ : Around} {h₀ base : Heap} {mg mb : Str → Option Value} {p : Program} {loose : List Str} {mean : ExcName → Option Value} {L : Nat} {fa : Addr} {cd : Value} {gens drawn os} {h₁ : Heap} {tk₁ : Nat} {Q : Flow → Shared → Prop} {E : Value → Shared → Prop}
    {l : Addr} {vs : List Value} {xs : List Int} {o1 o2 o3 o4 o5 : Obj} {m : Str → Option Value}
    (B : Below A₀ base [] h₀) (X : (hd.heap_1 w.params).In h₀) (T : Top p loose mean mg mb h₀)
    (hl : h₀.IsList l vs.toArray) (hI : IntsAre vs xs) (hlen : ¬ (63 : Int) < (xs.length : Int))
    (F : Fr h₀ L h₁ m) (hm : m = fun y => if y = Str.ofString "script" then some (.ref l) else none)
    (N : News h₀ L h₁ [(L + 1 + 1 + 1 + 1 + 1, o5), (L + 1 + 1 + 1 + 1, o4), (L + 1 + 1 + 1, o3), (L + 1 + 1, o2), (L + 1, o1), (65, tabObj #[]), (58, tabObj #[])])
    (l0 : 65 < L ∧ 58 < L)
    (h1 : o1.data = .cell none) (h2 : o2.data = .cell none) (h3 : o3.data = .cell none) (h4 : o4.data = .cell none) (h5 : o5.data = .cell none)
    (hE : PassesOwn (model PR w) (callerA.deeper (envOfC lawD.name lawD.scope L fa cd)) (envOfC lawD.name lawD.scope L fa cd) E)
    (hQ : ∀ h' tk' m' t5 t8 c5' c8' o5' o8', Fr h₀ L h' m' → News h₀ L h' (tail4 t5 t8 c5' c8' o5' o8') → Tabs t5 t8 c5' c8' o5' o8' → Q (.ret (.bool true)) { heap := h', gens := gens, drawn := drawn, toks := tk', os := os }) :
    wpAny (model PR w) (callerA.deeper (envOfC lawD.name lawD.scope L fa cd)) (execs lawD.body (envOfC lawD.name lawD.scope L fa cd)) Q E { heap := h₁, gens := gens, drawn := drawn, toks := tk₁, os := os } := by
  subst hm
  rw [law_env] at hE ⊢
  exact law_head (s := { heap := h₁, gens := gens, drawn := drawn, toks := tk₁, os := os }) (m := fun _ => none) B X T (by decide +kernel) (by decide +kernel) hl hI hlen F N l0 h1 h2 h3 h4 h5 hE hQ
end Mine
end

theorem Mine.fresh52 : True := by
  w_top off
  trivial
section
open PySem PySem.W PySem.Calls PySem.Spec PyProof.Rows
set_option maxRecDepth 100000
set_option maxHeartbeats 1000000
open Mine
theorem PySem.Challenge.cw_ph0131_01_holds : PySem.Challenge.rw_ph0131_01.Holds := by
  refine hd ?_
  w_strict k_go0
  all_goals try k_fold
  rename Frag.In _ _ => X'
  rename Top _ _ _ _ _ _ => T'
  rename Below _ _ _ _ => K'
  rename Fr _ _ _ _ => F'
  rename News _ _ _ _ => N'
  rename _ < _ ∧ _ < _ => l0
  rename IntsAre _ _ => hI
  refine law_top K' X' T' lifted hI ?hi2 F' ?hm N' l0 ?h1 ?h2 ?h3 ?h4 ?h5 ?hE ?hQ
  case hi2 => assumption
  case hm => rfl
  case h1 => assumption
  case h2 => assumption
  case h3 => assumption
  case h4 => assumption
  case h5 => assumption
  case hE => passes_own
  case hQ =>
    intro h' tk' m' t5 t8 c5' c8' o5' o8' F N TB
    obtain ⟨p5, e5⟩ : ∃ ps, t5 = tabObj ps := by
      rcases TB.k5 with ⟨q, _⟩ | ⟨q, _⟩ <;> exact ⟨_, q⟩
    obtain ⟨p8, e8⟩ : ∃ ps, t8 = tabObj ps := by
      rcases TB.k8 with ⟨q, _⟩ | ⟨q, _⟩ <;> exact ⟨_, q⟩
    subst e5 e8
    have N2 : News _ _ h' [(65, tabObj p5), (58, tabObj p8)] := fun q hq => N q (by
      simp only [List.mem_cons, List.not_mem_nil, or_false] at hq ⊢
      rcases hq with h | h <;> simp [h])
    clear N N' F'
    dsimp only
    refine ⟨?good, ?grown⟩
    case grown => (walk1)
    case good =>
      first | (k_end; kc_close) | (k_end; wrow_close) | k_steps
end
