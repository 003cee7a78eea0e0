import PyProof.Rows.All
import Wide.All
import OpenK.AllK
import Wide.FinOn
import OpenK.XGo
import Lean
import PySem.Challenge.RW_ij0136_01
open PySem PySem.W PySem.Spec PySem.Calls PyProof.Rows
set_option Elab.async false
set_option maxRecDepth 100000
set_option maxHeartbeats 0
set_option linter.all false
set_option compiler.extract_closed false
section
open PySem PySem.W PySem.Spec PySem.Calls PyProof.Rows
set_option Elab.async false
set_option maxRecDepth 100000
namespace Mine.Internal
section
local macro_rules | `(tactic| o_head $_) => `(tactic| assumption)
theorem pre (h : PySem.Challenge.rw_ij0136_01.row.Holds) : PySem.Challenge.rw_ij0136_01.row.Holds := by
  k_head
end
noncomputable abbrev PG : Program := PySem.Challenge.pw_ij0136_01
noncomputable abbrev ar (dp un : Nat) (gd : Option (List Code)) (outs : List Env) : Around := { handled := none, depth := dp, frames := some outs, guards := gd, units := un }
noncomputable def Free (base : Heap) (outs : List Env) (h : Heap) (pre : List (Addr × Obj)) : Prop :=
  ∀ x ∈ pre, h.get? x.1 = some x.2 ∧ base.get? x.1 = none ∧ ∀ env ∈ outs, env.frame ≠ some x.1
noncomputable def Kept (as : List Addr) (h h' : Heap) : Prop := ∀ b o, h.get? b = some o → b ∉ as → h'.get? b = some o
noncomputable def EndR (R : Result → Shared → Prop) (v : Value) (s' : Shared) : Prop := R (.ok (.ret v)) s'

theorem free_of {A₀ : Around} {base g h : Heap} {outer : List Env} {L : Addr} {m : Str → Option Value} {env : Env} {led pre : List (Addr × Obj)} (B : Below A₀ base outer g) (F : Fr g L h m) (N : News g L h led)
    (hf : env.frame = some L) (sub : ∀ x ∈ pre, x ∈ led) : Free base (env :: outer) h pre := fun x hx => by
  have n := N x (sub x hx)
  refine ⟨n.1, ?_, fun e he => ?_⟩
  · cases q : base.get? x.1 with
    | none => rfl
    | some o => have := B.stays _ _ q; rw [n.2.2] at this; cases this
  · rcases List.mem_cons.mp he with rfl | he
    · rw [hf]; intro e; exact n.2.1 (Option.some.inj e).symm
    · obtain ⟨L₁, o₁, hf₁, ho₁⟩ := funFrames_in B.frames e he
      rw [hf₁]
      intro e
      rw [Option.some.inj e, n.2.2] at ho₁
      cases ho₁

theorem back {g h h' : Heap} {L : Addr} {m : Str → Option Value} {led pre post rest : List (Addr × Obj)} (F : Fr g L h m) (N : News g L h led) (sub : ∀ x ∈ pre, x ∈ led)
    (hr : ∀ x ∈ rest, x ∈ led ∧ x.1 ∉ pre.map (·.1)) (k : Kept (pre.map (·.1)) h h') (hp : ∀ x ∈ post, h'.get? x.1 = some x.2) (ha : ∀ x ∈ post, x.1 ∈ pre.map (·.1) ∨ h.get? x.1 = none) :
    Fr g L h' m ∧ News g L h' (post ++ rest) := by
  have nL : L ∉ pre.map (·.1) := fun q => by
    obtain ⟨x, hx, e⟩ := List.mem_map.mp q
    exact (N x (sub x hx)).2.1 e
  have ng : ∀ b o, g.get? b = some o → b ∉ pre.map (·.1) := fun b o e q => by
    obtain ⟨x, hx, e'⟩ := List.mem_map.mp q
    have := (N x (sub x hx)).2.2
    rw [show x.1 = b from e', e] at this; cases this
  obtain ⟨oL, es, ep, hL, r⟩ := F.ns
  refine ⟨⟨⟨oL, es, ep, k L oL hL nL, r⟩, fun b o e => k b o (F.keep b o e) (ng b o e), F.above⟩, fun x hx => ?_⟩
  rcases List.mem_append.mp hx with hx | hx
  · refine ⟨hp x hx, ?_, ?_⟩
    · rcases ha x hx with q | q
      · exact fun e => nL (e ▸ q)
      · intro e; rw [e, hL] at q; cases q
    · cases q : g.get? x.1 with
      | none => rfl
      | some o =>
        rcases ha x hx with z | z
        · exact absurd z (ng _ _ q)
        · have := F.keep _ _ q; rw [z] at this; cases this
  · exact ⟨k _ _ (N x (hr x hx).1).1 (hr x hx).2, (N x (hr x hx).1).2⟩

theorem kept_of {as : List Addr} {g h h' : Heap} {L : Addr} {m : Str → Option Value} (hg : Kept as h g) (F : Fr g L h' m) : Kept as h h' := fun b o e n => F.keep b o (hg b o e n)

section
variable {w : World} {s : Shared} {base : Heap} {outs : List Env} {K : Frag} {p : Program} {loose : List Str} {mean : ExcName → Option Value} {mg mb : Str → Option Value} {dp un : Nat} {gd : Option (List Code)}
theorem hide_below (B : Below (ar dp un gd outs) base outs s.heap) {pre : List (Addr × Obj)} (V : Free base outs s.heap pre) : Below (ar dp un gd outs) base outs (hideAll s.heap (pre.map (·.1))) := by
  refine ⟨rfl, fun b o e => hideAll_get _ (B.stays b o e) fun q => ?_, funFrames_hideAll B.frames fun env he a ha hf => ?_⟩
  · obtain ⟨x, hx, e'⟩ := List.mem_map.mp q
    have := (V x hx).2.1
    rw [show x.1 = b from e', e] at this; cases this
  · obtain ⟨x, hx, e'⟩ := List.mem_map.mp ha
    exact (V x hx).2.2 env he (by rw [hf, show x.1 = a from e'])
theorem enter {R : Result → Shared → Prop} {name qual : Str} {params : Arguments} {body : List Stmt} {scope : Scope} {dV kV doc pm cdv ct oc : Value} {an od : Option Addr} {osl : Array (Option Value)} {f : Addr} {args : Args} {binds : List (Str × Value)} {pre : List (Addr × Obj)}
    (B : Below (ar dp un gd outs) base outs s.heap) (X : K.In base) (T : Top p loose mean mg mb base) (V : Free base outs s.heap pre)
    (ho : K.lookup f = some ⟨oc, od, .func (fnOf name qual params body scope dV kV doc pm an cdv ct), osl⟩) (hcd : codeIn K cdv qual = true) (hroom : dp < recursionLimit)
    (hbind : BindsTo s (fnOf name qual params body scope dV kV doc pm an cdv ct) args binds) (hloc : ∀ y ∈ binds, scope.names.lookup y.1 = some .local)
    (h : ∀ g L' h₁, Kept (pre.map (·.1)) s.heap g → Fr g L' h₁ (fun y => binds.reverse.lookup y) → News g L' h₁ pre → Below (ar dp un gd outs) base outs g → K.In g → Top p loose mean mg mb g →
      wpAny (model PG w) ((ar dp un gd outs).deeper (envOf qual scope L' f cdv)) (execs body (envOf qual scope L' f cdv))
        (fun fl s' => EndR R (match fl with | .ret v => v | _ => .none) s')
        (fun e s' => wpAny (model PG w) ((ar dp un gd outs).deeper (envOf qual scope L' f cdv)) (leaving (envOf qual scope L' f cdv) e) (fun _ s'' => R (.error e) s'') (fun e' s'' => R (.error e') s'') s')
        { s with heap := h₁, toks := s.toks + binds.length })
    (hco : scope.isCoroutine = false) (hgen : scope.isGenerator = false) (hk : scope.kind = .function)
    (hcell : ∀ x ∈ scope.names, x.2 ≠ .cell) : codeAny (model PG w) (ar dp un gd outs) (.call (.ref f) args) R s := by
  have BG := hide_below B V
  have XS := X.keeps B.stays
  refine codeAny_call_def (fd := fnOf name qual params body scope dV kV doc pm an cdv ct) (body := body) (binds := binds) hroom (XS _ _ ho) rfl (T.nolimit.keeps B.stays) (codeRec_of XS hcd) rfl hbind hcell hloc (fun h₁ hns hk₁ => ?_) hco hgen hk
  exact h _ s.heap.objs.size h₁ (fun b o e n => hideAll_get _ e n) ⟨hns, fun b o e => hk₁ b o (of_hideAll _ e), Nat.le_of_eq (hideAll_size _ _)⟩
    (fun x hx => ⟨hk₁ _ _ (V x hx).1, Nat.ne_of_lt (Heap.lt_size (V x hx).1), hideAll_none _ (List.mem_map_of_mem hx)⟩) BG (X.keeps BG.stays) (T.keeps BG.stays)
end
noncomputable abbrev ent (P : Params) (x : Str) (k : Tok) (v : Value) : DictEntry := ⟨PyData.keyHash P x, .str x k, v⟩
noncomputable abbrev sioD (P : Params) (k1 k2 k3 t0 t1 t2 : Tok) (T : Str) (pos : Int) : Obj :=
  dictOf [ent P (Str.ofString "_StringIO__newline") k1 (.str (Str.ofString "\n") t0), ent P (Str.ofString "_StringIO__buf") k2 (.str T t1), ent P (Str.ofString "_StringIO__pos") k3 (.int pos t2)] 3
end Mine.Internal

end
section
namespace Mine.Internal
section
variable {M : Model} {A : Around} {E : Value → Shared → Prop} {s : Shared} {env : Env} {st : Stmt} {rest : List Stmt} {Q q : Flow → Shared → Prop}
structure Nx (M : Model) (A : Around) (rest : List Stmt) (env : Env) (Q : Flow → Shared → Prop) (E : Value → Shared → Prop) (q : Flow → Shared → Prop) : Prop where
  next : ∀ s', wpAny M A (execs rest env) Q E s' → q .next s'
  ret : ∀ v s', Q (.ret v) s' → q (.ret v) s'
  brk : ∀ s', Q .brk s' → q .brk s'
  cont : ∀ s', Q .cont s' → q .cont s'
theorem nx_cons (h : ∀ q, Nx M A rest env Q E q → wpAny M A (exec st env) q E s) : wpAny M A (execs (st :: rest) env) Q E s :=
  wpAny_execs_cons (h _ ⟨fun _ h => h, fun _ _ h => h, fun _ h => h, fun _ h => h⟩)
theorem nx_last (h : wpAny M A (exec st env) Q E s) : wpAny M A (execs [st] env) Q E s :=
  wpAny_execs_cons (wpAny_mono h (fun f _ h => match f with | .next => wpAny_execs_nil h | .ret _ => h | .brk => h | .cont => h) (fun _ _ h => h))
theorem nx_next (N : Nx M A rest env Q E q) (h : wpAny M A (execs rest env) Q E s) : q .next s := N.next _ h
theorem nx_ret {v : Value} (N : Nx M A rest env Q E q) (h : Q (.ret v) s) : q (.ret v) s := N.ret _ _ h
theorem nx_brk (N : Nx M A rest env Q E q) (h : Q .brk s) : q .brk s := N.brk _ h
theorem nx_cont (N : Nx M A rest env Q E q) (h : Q .cont s) : q .cont s := N.cont _ h
end
noncomputable def esOf (o : Obj) : List DictEntry := match o.data with | .dict es _ => es.toList | _ => []
noncomputable def nOf (o : Obj) : Nat := match o.data with | .dict _ n => n | _ => 0
noncomputable def isD (o : Obj) : Bool := (match o.cls with | .type i => i == "dict" | _ => false) && (match o.data with | .dict _ _ => true | _ => false) && o.dict.isNone && o.slots.isEmpty
theorem isD_of {o : Obj} (h : isD o = true) : o = dictOf (esOf o) (nOf o) := by
  obtain ⟨c, d, da, sl⟩ := o
  unfold isD at h
  simp only [Bool.and_eq_true] at h
  obtain ⟨⟨⟨h1, h2⟩, h3⟩, h4⟩ := h
  have e4 : sl = #[] := by simpa using h4
  have e3 : d = none := by simpa using h3
  subst e4 e3
  cases c <;> first | cases h1 | skip
  cases da <;> first | cases h2 | skip
  rename_i i es n
  rw [beq_iff_eq.mp h1]
  simp [esOf, nOf, dictOf]
noncomputable def nth : List (Addr × Obj) → Nat → Option (Addr × Obj)
  | [], _ => none
  | p :: _, 0 => some p
  | _ :: r, n + 1 => nth r n
theorem nth_mem : ∀ {l : List (Addr × Obj)} {i : Nat} {p : Addr × Obj}, nth l i = some p → p ∈ l
  | [], _, _, h => nomatch h
  | q :: r, 0, _, h => by cases h; exact .head _
  | q :: r, n + 1, _, h => .tail _ (nth_mem (l := r) (i := n) h)
section
variable {a b c d e f p : Addr × Obj} {r : List (Addr × Obj)}
theorem nth_0 : nth (p :: r) 0 = some p := rfl
theorem nth_1 : nth (a :: p :: r) 1 = some p := rfl
theorem nth_2 : nth (a :: b :: p :: r) 2 = some p := rfl
theorem nth_3 : nth (a :: b :: c :: p :: r) 3 = some p := rfl
theorem nth_4 : nth (a :: b :: c :: d :: p :: r) 4 = some p := rfl
theorem nth_5 : nth (a :: b :: c :: d :: e :: p :: r) 5 = some p := rfl
theorem nth_6 : nth (a :: b :: c :: d :: e :: f :: p :: r) 6 = some p := rfl
end
noncomputable def ownOk (K : Frag) (C : Addr) (name : Str) : Bool := plainGet K C name && hasDictIn K C && (findIn K (.ref C) name).any fun attr => noGet K attr
noncomputable def locOk (cs : Scope) (x : Str) : Bool := (match cs.kind with | .function => true | _ => false) && (match cs.names.lookup x with | some .local => true | _ => false) && !(x == ("__debug__" : Str))
@[reducible] noncomputable def updM (x : Str) (v : Value) (m : Str → Option Value) (y : Str) : Option Value := if y = x then some v else m y
noncomputable def PutsTo (P : Params) (name : Str) (v : Value) (o o' : Obj) : Prop :=
  o = dictOf (esOf o) (nOf o) ∧ o' = dictOf (esOf o') (nOf o') ∧ (getL name (esOf o)).isSome = true ∧ (esOf o').length ≤ 1000 ∧ ∀ tk, (putL name (PyData.keyHash P name) (.str name tk) v (esOf o), putN name (esOf o) (nOf o)) = (esOf o', nOf o')
noncomputable def setOk (K : Frag) (C : Addr) (name : Str) : Bool := (match findIn K (.ref C) "__setattr__" with | some (some (.builtin i)) => i == "object.__setattr__" | _ => false) && plainOver K C && (match takerIn K C name with | some none => true | _ => false) && hasDictIn K C
section
variable {prog : Program} {w : World} {A : Around} {E : Value → Shared → Prop} {K : Frag} {x C dx L fa a : Addr} {h₀ hp : Heap} {m : Str → Option Value} {news news' : List (Addr × Obj)} {od od' : Obj} {name y : Str} {v : Value}
  {gs : Array GenState} {dr : Drawn} {tk : Nat} {os : OsState} {cn : Str} {cs : Scope} {ccd : Value} {cl : List (Str × Addr)} {ps ps' : Pos} {sl : Array (Option Value)} {Q : Value → Shared → Prop} {k : Nat}
theorem loc_ok (h : locOk cs y = true) : cs.kind = .function ∧ (envX cn cs L fa ccd cl).kindOf y = some .local ∧ (y == ("__debug__" : Str)) = false := by
  obtain ⟨h1, h3⟩ := Bool.and_eq_true_iff.mp h
  obtain ⟨h1, h2⟩ := Bool.and_eq_true_iff.mp h1
  refine ⟨?_, ?_, ?_⟩
  · split at h1
    · assumption
    · cases h1
  · show cs.names.lookup y = some .local
    split at h2
    · assumption
    · cases h2
  · simpa using h3
theorem own_ok (h : ownOk K C name = true) : ∃ attr, plainGet K C name = true ∧ hasDictIn K C = true ∧ findIn K (.ref C) name = some attr ∧ noGet K attr = true := by
  obtain ⟨h1, h3⟩ := Bool.and_eq_true_iff.mp h
  obtain ⟨h1, h2⟩ := Bool.and_eq_true_iff.mp h1
  obtain ⟨a, e, b⟩ := any_some h3
  exact ⟨a, h1, h2, e, b⟩
theorem int_T {i : Int} (h : ∀ t tk, Q (.int i t) ⟨hp, gs, dr, tk, os⟩) {M : Model} {env : Env} : wpAny M A (eval (.Constant (.int i) k ps) env) Q E ⟨hp, gs, dr, tk, os⟩ := wpAny_Constant_int (h _ _)
theorem str_T {z : Str} (h : ∀ t tk, Q (.str z t) ⟨hp, gs, dr, tk, os⟩) {M : Model} {env : Env} : wpAny M A (eval (.Constant (.str z) k ps) env) Q E ⟨hp, gs, dr, tk, os⟩ := Constant_str (h _ _)
theorem name_T {M : Model} (F : Fr h₀ L hp m) (hv : m y = some v) (ok : locOk cs y = true) (h : Q v ⟨hp, gs, dr, tk, os⟩) : wpAny M A (eval (.Name y ps) (envX cn cs L fa ccd cl)) Q E ⟨hp, gs, dr, tk, os⟩ :=
  nameX_L (s := ⟨hp, gs, dr, tk, os⟩) F hv h (loc_ok (cn := cn) (L := L) (fa := fa) (ccd := ccd) (cl := cl) ok).1 (loc_ok ok).2.1 (loc_ok (cn := cn) (L := L) (fa := fa) (ccd := ccd) (cl := cl) ok).2.2
theorem store_T {M : Model} {Q : Unit → Shared → Prop} (F : Fr h₀ L hp m) (N : News h₀ L hp news) (ok : locOk cs y = true) (h : ∀ h' tk, Fr h₀ L h' (updM y v m) → News h₀ L h' news → Q () ⟨h', gs, dr, tk, os⟩) :
    wpAny M A (storeName (envX cn cs L fa ccd cl) y v) Q E ⟨hp, gs, dr, tk, os⟩ :=
  storeX_L (s := ⟨hp, gs, dr, tk, os⟩) F N (fun h' F' N' => h h' _ F' N') (loc_ok (cn := cn) (L := L) (fa := fa) (ccd := ccd) (cl := cl) ok).1 (loc_ok ok).2.1
theorem get_M {expr : Bool} (F : Fr h₀ L hp m) (X₀ : K.In h₀) (N : News h₀ L hp news) (h1 : (x, (⟨.ref C, some dx, .plain, sl⟩ : Obj)) ∈ news) (h2 : (dx, od) ∈ news) (ok : ownOk K C name = true) (ho : od = dictOf (esOf od) (nOf od))
    (hl : getL name (esOf od) = some (some v)) (hv : handedIn v = true) (h : ∀ tk, Q v ⟨hp, gs, dr, tk, os⟩) : wpAny (model prog w) A (getAttr (.ref x) name expr) Q E ⟨hp, gs, dr, tk, os⟩ := by
  obtain ⟨_, a, b, c, d⟩ := own_ok ok
  exact get_own (s := ⟨hp, gs, dr, tk, os⟩) F X₀ (InstAt.of_news N h1 (ho ▸ h2)) a b c d hl hv (h _)
theorem own_M (F : Fr h₀ L hp m) (hx : m y = some (.ref x)) (lo : locOk cs y = true) (X₀ : K.In h₀) (N : News h₀ L hp news) (h1 : (x, (⟨.ref C, some dx, .plain, sl⟩ : Obj)) ∈ news) (h2 : (dx, od) ∈ news) (ok : ownOk K C name = true) (ho : od = dictOf (esOf od) (nOf od))
    (hl : getL name (esOf od) = some (some v)) (hv : handedIn v = true) (h : ∀ tk, Q v ⟨hp, gs, dr, tk, os⟩) : wpAny (model prog w) A (eval (.Attribute (.Name y ps) name ps') (envX cn cs L fa ccd cl)) Q E ⟨hp, gs, dr, tk, os⟩ :=
  Attribute_Name_ (name_T F hx lo (get_M F X₀ N h1 h2 ok ho hl hv h))
theorem set_M {Q : Unit → Shared → Prop} (F : Fr h₀ L hp m) (X₀ : K.In h₀) (N : News h₀ L hp news) (h1 : (x, (⟨.ref C, some dx, .plain, sl⟩ : Obj)) ∈ news) (h2 : (dx, od) ∈ news) (ok : setOk K C name = true)
    (e : PutsTo w.params name v od od') (U : Upd dx od od' news news') (h : ∀ h' tk, Fr h₀ L h' m → News h₀ L h' news' → Q () ⟨h', gs, dr, tk, os⟩) : wpAny (model prog w) A (setAttr (.ref x) name v) Q E ⟨hp, gs, dr, tk, os⟩ := by
  obtain ⟨k1, k2⟩ := Bool.and_eq_true_iff.mp ok
  obtain ⟨k1, k3⟩ := Bool.and_eq_true_iff.mp k1
  obtain ⟨k1, k4⟩ := Bool.and_eq_true_iff.mp k1
  obtain ⟨e1, e2, e3, e4, e5⟩ := e
  have q1 : findIn K (.ref C) "__setattr__" = some (some (.builtin "object.__setattr__")) := by
    split at k1
    · rename_i e; rw [e, beq_iff_eq.mp k1]
    · cases k1
  have q2 : takerIn K C name = some none := by
    split at k3
    · assumption
    · cases k3
  rw [e1] at h2 U
  rw [e2] at U
  exact set_dict (s := ⟨hp, gs, dr, tk, os⟩) F X₀ N (InstAt.of_news N h1 h2) rfl q1 k4 q2 k2 e3 (e5 _) U e4 (fun h' F' N' => h h' _ F' N')
theorem get_T {expr : Bool} {i j : Nat} (F : Fr h₀ L hp m) (X₀ : (pre.heap_1 w.params).In h₀) (N : News h₀ L hp news) (h1 : nth news i = some (x, (⟨.ref C, some dx, .plain, sl⟩ : Obj))) (h2 : nth news j = some (dx, od)) (ok : ∀ P, ownOk (pre.heap_1 P) C name = true) (ho : isD od = true)
    (hl : getL name (esOf od) = some (some v)) (hv : handedIn v = true) (h : ∀ tk, Q v ⟨hp, gs, dr, tk, os⟩) : wpAny (model prog w) A (getAttr (.ref x) name expr) Q E ⟨hp, gs, dr, tk, os⟩ := get_M F X₀ N (nth_mem h1) (nth_mem h2) (ok _) (isD_of ho) hl hv h
theorem own_T {i j : Nat} (F : Fr h₀ L hp m) (hx : m y = some (.ref x)) (lo : locOk cs y = true) (X₀ : (pre.heap_1 w.params).In h₀) (N : News h₀ L hp news) (h1 : nth news i = some (x, (⟨.ref C, some dx, .plain, sl⟩ : Obj))) (h2 : nth news j = some (dx, od)) (ok : ∀ P, ownOk (pre.heap_1 P) C name = true) (ho : isD od = true)
    (hl : getL name (esOf od) = some (some v)) (hv : handedIn v = true) (h : ∀ tk, Q v ⟨hp, gs, dr, tk, os⟩) : wpAny (model prog w) A (eval (.Attribute (.Name y ps) name ps') (envX cn cs L fa ccd cl)) Q E ⟨hp, gs, dr, tk, os⟩ :=
  own_M F hx lo X₀ N (nth_mem h1) (nth_mem h2) (ok _) (isD_of ho) hl hv h
theorem set_T {Q : Unit → Shared → Prop} {i j : Nat} (F : Fr h₀ L hp m) (X₀ : (pre.heap_1 w.params).In h₀) (N : News h₀ L hp news) (h1 : nth news i = some (x, (⟨.ref C, some dx, .plain, sl⟩ : Obj))) (h2 : nth news j = some (dx, od)) (ok : ∀ P, setOk (pre.heap_1 P) C name = true)
    (e : PutsTo w.params name v od od') (U : Upd dx od od' news news') (h : ∀ h' tk, Fr h₀ L h' m → News h₀ L h' news' → Q () ⟨h', gs, dr, tk, os⟩) : wpAny (model prog w) A (setAttr (.ref x) name v) Q E ⟨hp, gs, dr, tk, os⟩ :=
  set_M F X₀ N (nth_mem h1) (nth_mem h2) (ok _) e U h
theorem upd_head {a : Addr} {o o' : Obj} {r : List (Addr × Obj)} (h : ∀ p ∈ r, p.1 ≠ a) : Upd a o o' ((a, o) :: r) ((a, o') :: r) := .head h
theorem upd_tail {a b : Addr} {o o' z : Obj} {r r' : List (Addr × Obj)} (h : b ≠ a) (u : Upd a o o' r r') : Upd a o o' ((b, z) :: r) ((b, z) :: r') := .tail h u
theorem all_nil {a : Addr} : ∀ p ∈ ([] : List (Addr × Obj)), p.1 ≠ a := fun _ h => nomatch h
theorem all_cons {a b : Addr} {z : Obj} {r : List (Addr × Obj)} (h : b ≠ a) (u : ∀ p ∈ r, p.1 ≠ a) : ∀ p ∈ (b, z) :: r, p.1 ≠ a := List.forall_mem_cons.mpr ⟨h, u⟩
end
section
variable {M : Model} {A : Around} {E : Value → Shared → Prop} {s : Shared} {env : Env} {test : Expr} {body orelse : List Stmt} {Q : Flow → Shared → Prop} {b : Bool}
noncomputable def IfQ (M : Model) (A : Around) (body orelse : List Stmt) (env : Env) (Q : Flow → Shared → Prop) (E : Value → Shared → Prop) (b : Bool) (s : Shared) : Prop := if b then wpAny M A (execs body env) Q E s else wpAny M A (execs orelse env) Q E s
theorem if_T {ps : Pos} (h : wpAny M A (isTrue test env (eval test env)) (IfQ M A body orelse env Q E) E s) : wpAny M A (exec (.If test body orelse ps) env) Q E s := wpAny_If h
theorem ifq (h : if b then wpAny M A (execs body env) Q E s else wpAny M A (execs orelse env) Q E s) : IfQ M A body orelse env Q E b s := h
theorem ifq_t (h : wpAny M A (execs body env) Q E s) : IfQ M A body orelse env Q E true s := h
theorem ifq_f (h : wpAny M A (execs orelse env) Q E s) : IfQ M A body orelse env Q E false s := h
noncomputable def TrQ (M : Model) (A : Around) (Q : Bool → Shared → Prop) (E : Value → Shared → Prop) (c : Value) (s : Shared) : Prop := wpAny M A (truthy c) Q E s
theorem trq_b {Q : Bool → Shared → Prop} (h : Q b s) : TrQ M A Q E (.bool b) s := wpAny_truthy_bool h
theorem trq {Q : Bool → Shared → Prop} {c : Value} (h : wpAny M A (truthy c) Q E s) : TrQ M A Q E c s := h
theorem cmp_1 {l r : Expr} {op : CmpOp} {ps : Pos} {whole : Sem Value} {Q : Bool → Shared → Prop} (h : wpAny M A (eval l env) (fun a s₁ => wpAny M A (eval r env) (fun b s₂ => wpAny M A (compareOp op a b) (TrQ M A Q E) E s₂) E s₁) E s)
    (hm : behindInMarks op r = false := by with_unfolding_all rfl) : wpAny M A (isTrue (.Compare l [op] [r] ps) env whole) Q E s := wpAny_isTrue_Compare1 h hm
end
section
variable {M : Model} {A : Around} {E : Value → Shared → Prop} {L fa : Addr} {h₀ hp : Heap} {m : Str → Option Value} {y z : Str} {v u : Value} {gs : Array GenState} {dr : Drawn} {tk k : Nat} {os : OsState} {cn : Str} {cs : Scope} {ccd : Value} {cl : List (Str × Addr)} {ps p1 p2 : Pos} {Q : Bool → Shared → Prop} {op : CmpOp} {whole : Sem Value}
theorem cmp_s (F : Fr h₀ L hp m) (hv : m y = some v) (ok : locOk cs y = true) (h : ∀ t tk, wpAny M A (compareOp op v (.str z t)) (TrQ M A Q E) E ⟨hp, gs, dr, tk, os⟩) (hm : behindInMarks op (.Constant (.str z) k p2) = false) :
    wpAny M A (isTrue (.Compare (.Name y p1) [op] [.Constant (.str z) k p2] ps) (envX cn cs L fa ccd cl) whole) Q E ⟨hp, gs, dr, tk, os⟩ := cmp_1 (name_T F hv ok (str_T h)) hm
theorem cmp_i {i : Int} (F : Fr h₀ L hp m) (hv : m y = some v) (ok : locOk cs y = true) (h : ∀ t tk, wpAny M A (compareOp op v (.int i t)) (TrQ M A Q E) E ⟨hp, gs, dr, tk, os⟩) (hm : behindInMarks op (.Constant (.int i) k p2) = false) :
    wpAny M A (isTrue (.Compare (.Name y p1) [op] [.Constant (.int i) k p2] ps) (envX cn cs L fa ccd cl) whole) Q E ⟨hp, gs, dr, tk, os⟩ := cmp_1 (name_T F hv ok (int_T h)) hm
theorem cmp_n (F : Fr h₀ L hp m) (hv : m y = some v) (ok : locOk cs y = true) (h : wpAny M A (compareOp op v .none) (TrQ M A Q E) E ⟨hp, gs, dr, tk, os⟩) (hm : behindInMarks op (.Constant .none k p2) = false) :
    wpAny M A (isTrue (.Compare (.Name y p1) [op] [.Constant .none k p2] ps) (envX cn cs L fa ccd cl) whole) Q E ⟨hp, gs, dr, tk, os⟩ := cmp_1 (name_T F hv ok (Constant_none h)) hm
theorem cmp_nn (F : Fr h₀ L hp m) (hv : m y = some v) (ok : locOk cs y = true) (hu : m z = some u) (ok' : locOk cs z = true) (h : wpAny M A (compareOp op v u) (TrQ M A Q E) E ⟨hp, gs, dr, tk, os⟩) (hm : behindInMarks op (.Name z p2) = false) :
    wpAny M A (isTrue (.Compare (.Name y p1) [op] [.Name z p2] ps) (envX cn cs L fa ccd cl) whole) Q E ⟨hp, gs, dr, tk, os⟩ := cmp_1 (name_T F hv ok (name_T F hu ok' h)) hm
end
section
variable {a b c d i j k l m n p q t v N : Nat}
theorem om_sub1 (h : p + 1 ≤ n) : n - (p + 1) < n - p := Nat.sub_lt_sub_left h (Nat.lt_succ_self p)
theorem om_sub2 (h : p + 1 ≤ n) (g : p + 1 ≤ q) : n - q < n - p := Nat.sub_lt_sub_left h g
theorem om_2p (h : t ≤ 2 * p) (g : p + 1 ≤ q) : t ≤ 2 * q := Nat.le_trans h (Nat.mul_le_mul_left 2 (Nat.le_of_lt g))
theorem om_2p0 (h : t ≤ 2 * p) : t ≤ 2 * (p + 1) := Nat.le_trans h (Nat.le_add_right _ 2)
theorem om_2p1 (h : t ≤ 2 * p) : t + 1 ≤ 2 * (p + 1) := Nat.le_trans (Nat.succ_le_succ h) (Nat.le_succ _)
theorem om_2p2 (h : t ≤ 2 * p) : t + 1 + 1 ≤ 2 * (p + 1) := Nat.succ_le_succ (Nat.succ_le_succ h)
theorem om_lim (h : n < 400000) (g : p ≤ n) (e : t ≤ 2 * p) : t < 1000000 := Nat.lt_of_le_of_lt (Nat.le_trans e (Nat.mul_le_mul_left 2 (Nat.le_trans g (Nat.le_of_lt h)))) (Nat.le_of_ble_eq_true rfl)
theorem om_lim1 (h : n < 400000) (e : t ≤ 2 * p) (g : p + 1 ≤ n) : t + 1 < 1000000 := om_lim h g (om_2p1 e)
theorem om_n6 (h : n < 400000) : n < 1000000 := Nat.lt_trans h (Nat.le_of_ble_eq_true rfl)
theorem om_n24 (h : n < 1000000) : n ≤ 16777216 := Nat.le_trans (Nat.le_of_lt h) (Nat.le_of_ble_eq_true rfl)
theorem om_1000 (h : n ≤ 1000) : n ≤ 16777216 := Nat.le_trans h (Nat.le_of_ble_eq_true rfl)
theorem om_pos (e : n - p = k + 1) : p + 1 ≤ n := Nat.lt_of_sub_pos (Nat.lt_of_lt_of_eq (Nat.succ_pos k) e.symm)
theorem om_min1 (h : p < n) : min 1 (n - p) = 1 := Nat.min_eq_left (Nat.sub_pos_of_lt h)
theorem om_sub_one (h : n = p + 1) : n - p = 1 := by subst h; exact Nat.add_sub_cancel_left p 1
theorem om_len1 (h : p ≤ n) (q1 : ¬ ((p : Int) + 1 < (n : Int))) (q2 : ¬ ((n : Int) ≤ (p : Int))) : n = p + 1 :=
  Nat.le_antisymm (Nat.le_of_not_lt fun h => q1 (Int.ofNat_lt.2 h)) (Nat.lt_of_not_le fun h => q2 (Int.ofNat_le.2 h))
theorem om_63 (h : n < 1000000) : (n : Int) < 2 ^ 63 := Int.lt_trans (Int.ofNat_lt.2 h) (by decide)
theorem om_tnn : (Int.toNat (n : Int)) = n := rfl
theorem om_max : (max 0 (n : Int)).toNat = n := by rw [Int.max_eq_right (Int.natCast_nonneg n)]; rfl
theorem om_pk1 (h : p ≤ k) : p + (k - p + 1) = k + 1 := congrArg (· + 1) (Nat.add_sub_cancel' h)
theorem om_pv (h : v < k - p) : p + v < k := Nat.add_comm v p ▸ Nat.add_lt_of_lt_sub h
theorem om_n1 (h : l < n) : n = n - 1 + 1 := (Nat.succ_pred_eq_of_pos (Nat.lt_of_le_of_lt (Nat.zero_le l) h)).symm
theorem om_ex (h : l < n) : ∃ m, n = m + 1 := ⟨n - 1, om_n1 h⟩
theorem om_n2 (h : 0 + 1 < n) : n = n - 2 + 2 := (Nat.sub_add_cancel h).symm
theorem om_n3 (h : 0 + 1 + 1 < n) : n = n - 3 + 3 := (Nat.sub_add_cancel h).symm
theorem om_subn (h : p ≤ q) : ((q : Int) - (p : Int)).toNat = q - p := by rw [← Int.ofNat_sub h]; rfl
theorem om_mod {x : Int} (N : Nat) (h : (N : Int) > 0) : (x % N).toNat < N ∧ x % N = ((x % N).toNat : Int) :=
  have z : (0 : Int) ≤ x % N := Int.emod_nonneg x (Int.ne_of_gt h)
  have e : x % N = ((x % N).toNat : Int) := (Int.toNat_of_nonneg z).symm
  ⟨Int.ofNat_lt.1 (Int.lt_of_le_of_lt (Int.le_of_eq e.symm) (Int.emod_lt_of_pos x h)), e⟩
theorem om_tn {x : Int} (h : 0 ≤ x) : x = (x.toNat : Int) := (Int.toNat_of_nonneg h).symm
theorem om_tl {x : Int} (h : 0 ≤ x) (g : x < (N : Int)) : x.toNat < N := Int.ofNat_lt.1 (Int.lt_of_le_of_lt (Int.le_of_eq (Int.toNat_of_nonneg h)) g)
theorem no3 (h : a + 1 + 1 + 1 < 3) : False := Nat.not_lt_of_le (Nat.le_add_left 3 a) h
theorem no4 (h : a + 1 + 1 + 1 + 1 < 4) : False := Nat.not_lt_of_le (Nat.le_add_left 4 a) h
theorem no5 (h : a + 1 + 1 + 1 + 1 + 1 < 5) : False := Nat.not_lt_of_le (Nat.le_add_left 5 a) h
theorem no6 (h : a + 1 + 1 + 1 + 1 + 1 + 1 < 6) : False := Nat.not_lt_of_le (Nat.le_add_left 6 a) h
theorem lt_ble (e : Nat.ble (a + 1) b = true) : a < b := Nat.le_of_ble_eq_true e
theorem om_lt_of (h : k ≤ n) (g : k ≠ n) : k < n := Nat.lt_of_le_of_ne h g
theorem om_nn {x y : Nat} (h : (x : Int) = (y : Int)) : x = y := Int.ofNat.inj h
theorem om_nne {x y : Nat} (h : (x : Int) ≠ (y : Int)) : x ≠ y := fun e => h (congrArg _ e)
theorem om_ge (h : ¬ ((k : Int) < (n : Int))) (g : k ≤ n) : k = n := Nat.le_antisymm g (Nat.le_of_not_lt fun x => h (Int.ofNat_lt.2 x))
theorem om_le (h : n ≤ k) (e : Nat.ble k m = true) : n ≤ m := Nat.le_trans h (Nat.le_of_ble_eq_true e)
theorem om_lt (h : n < k) (e : Nat.ble k m = true) : n < m := Nat.lt_of_lt_of_le h (Nat.le_of_ble_eq_true e)
theorem om_ltle (h : n < k) (e : Nat.ble k m = true) : n ≤ m := Nat.le_trans (Nat.le_of_lt h) (Nat.le_of_ble_eq_true e)
theorem om_llt (h : n ≤ k) (e : Nat.ble (k + 1) m = true) : n < m := Nat.lt_of_le_of_lt h (Nat.le_of_ble_eq_true e)
theorem om_i63 (h : n ≤ k) (e : Nat.ble k 1000000 = true) : (n : Int) < 2 ^ 63 := Int.lt_trans (Int.ofNat_lt.2 (om_llt h (m := 1000001) e)) (by decide)
theorem om_i63' (h : n < k) (e : Nat.ble k 1000000 = true) : (n : Int) < 2 ^ 63 := om_i63 (Nat.le_of_lt h) e
theorem om_c0 {y : Int} (h : y = (k : Int)) : 0 ≤ y := h ▸ Int.natCast_nonneg k
theorem om_cl {y : Int} (h : y = (k : Int)) (g : k < n) : y < (n : Int) := h ▸ Int.ofNat_lt.2 g
theorem om_c3 {y : Int} (h : y = (k : Int)) (g : k < 3) : y < 3 := om_cl h g
theorem om_c4 {y : Int} (h : y = (k : Int)) (g : k < 4) : y < 4 := om_cl h g
theorem om_k5 {y : Int} (h : y = (k : Int)) (g : k < 6) (e : y ≠ 5) : k < 5 := Nat.lt_of_le_of_ne (Nat.le_of_lt_succ g) fun q => e (h.trans (congrArg _ q))
theorem om_y5 {y : Int} (h : y = (k : Int)) (g : k < 6) (e : y ≠ 5) : y < 5 := om_cl h (om_k5 h g e)
theorem om_ke {y : Int} (h : y = (k : Int)) (e : y = 5) : k = 5 := Int.ofNat.inj (h.symm.trans e)
theorem om_kne {y : Int} (h : y = (k : Int)) (e : y ≠ 5) : k ≠ 5 := fun q => e (h.trans (congrArg _ q))
theorem om_mn1 : 0 + 1 + min 10 n ≤ 16777216 := om_le (Nat.add_le_add_left (Nat.min_le_left 10 n) (0 + 1)) rfl
theorem om_mn2 (e : Nat.ble 19 m = true) : 0 + 1 + min 10 n + (0 + 1 + 1 + 1 + 1 + 1 + 1 + 1 + 1) ≤ m := om_le (Nat.add_le_add_right (Nat.add_le_add_left (Nat.min_le_left 10 n) (0 + 1)) _) e
theorem om_a24 (h : a < 1000000) (g : b < 1000) : a + b ≤ 16777216 := om_le (Nat.add_le_add (Nat.le_of_lt h) (Nat.le_of_lt g)) rfl
theorem om_1a (h : n ≤ 1000) : 1 + n ≤ 16777216 := om_le (Nat.add_le_add_left h 1) rfl
theorem om_1b (h : n ≤ 1000) : 1 + n + 1 ≤ 16777216 := om_le (Nat.add_le_add_right (Nat.add_le_add_left h 1) 1) rfl
theorem om_addl (e : Nat.ble k m = true) : n + k ≤ n + m := Nat.add_le_add_left (Nat.le_of_ble_eq_true e) n
theorem neg1 (k : Nat) : ¬ ((k : Int) = -1) := fun e => absurd (Int.natCast_nonneg k) (e ▸ (by decide : ¬ (0 : Int) ≤ -1))
theorem room (h : a + m < N) (e : Nat.ble k m = true) : a + k < N := Nat.lt_of_le_of_lt (Nat.add_le_add_left (Nat.le_of_ble_eq_true e) a) h
theorem room0 (h : a + m < N) : a < N := Nat.lt_of_le_of_lt (Nat.le_add_right a m) h
theorem room2 (h : a + m < N) (e : Nat.ble (j + k) m = true) : a + j + k < N := Nat.add_assoc a j k ▸ room h e
theorem room3 (h : a + m < N) (e : Nat.ble (i + j + k) m = true) : a + i + j + k < N := by rw [Nat.add_assoc a i j]; exact room2 h e
theorem room4 (h : a + m < N) (e : Nat.ble (l + i + j + k) m = true) : a + l + i + j + k < N := by rw [Nat.add_assoc a l i]; exact room3 h e
theorem room5 (h : a + m < N) (e : Nat.ble (n + l + i + j + k) m = true) : a + n + l + i + j + k < N := by rw [Nat.add_assoc a n l]; exact room4 h e
theorem strip (h : a ≠ b) : a + 1 ≠ b + 1 := fun e => h (Nat.succ.inj e)
theorem ne_add (k : Nat) : a + (k + 1) ≠ a := Nat.ne_of_gt (Nat.lt_add_of_pos_right (Nat.succ_pos k))
theorem off1 : a + 1 ≠ a := ne_add 0
theorem off2 : a + 1 + 1 ≠ a := ne_add 1
theorem off3 : a + 1 + 1 + 1 ≠ a := ne_add 2
theorem off4 : a + 1 + 1 + 1 + 1 ≠ a := ne_add 3
theorem off5 : a + 1 + 1 + 1 + 1 + 1 ≠ a := ne_add 4
theorem off6 : a + 1 + 1 + 1 + 1 + 1 + 1 ≠ a := ne_add 5
theorem ffo1 : a ≠ a + 1 := Ne.symm off1
theorem ffo2 : a ≠ a + 1 + 1 := Ne.symm off2
theorem ffo3 : a ≠ a + 1 + 1 + 1 := Ne.symm off3
theorem ffo4 : a ≠ a + 1 + 1 + 1 + 1 := Ne.symm off4
theorem ffo5 : a ≠ a + 1 + 1 + 1 + 1 + 1 := Ne.symm off5
theorem ffo6 : a ≠ a + 1 + 1 + 1 + 1 + 1 + 1 := Ne.symm off6
theorem gt_ne2 (h : a < b) (g : b < c) : c ≠ a := Nat.ne_of_gt (Nat.lt_trans h g)
theorem om_u (h : n + 150 < N) (g : m ≤ n + 10) : m + 140 < N := Nat.lt_of_le_of_lt (Nat.add_le_add_right g 140) h
theorem om_sucn (h : i < 3) : i + 1 < 4 := Nat.succ_lt_succ h
theorem om_4_16 (h : a ≤ 1000) (g : b ≤ 4) : a + b ≤ 16777216 := Nat.le_trans (Nat.add_le_add h g) (Nat.le_of_ble_eq_true rfl)
theorem lt_ne (h : a < b) : a ≠ b := Nat.ne_of_lt h
theorem gt_ne (h : b < a) : a ≠ b := Nat.ne_of_gt h
end
section
variable {P p0 p1 p2 p3 p4 p5 p6 p7 p8 p9 R : Prop}
theorem prj0 (h : P ∧ R) : P := h.1
theorem prj1 (h : p0 ∧ P ∧ R) : P := h.2.1
theorem prl1 (h : p0 ∧ P) : P := h.2
theorem prj2 (h : p0 ∧ p1 ∧ P ∧ R) : P := h.2.2.1
theorem prl2 (h : p0 ∧ p1 ∧ P) : P := h.2.2
theorem prj3 (h : p0 ∧ p1 ∧ p2 ∧ P ∧ R) : P := h.2.2.2.1
theorem prl3 (h : p0 ∧ p1 ∧ p2 ∧ P) : P := h.2.2.2
theorem prj4 (h : p0 ∧ p1 ∧ p2 ∧ p3 ∧ P ∧ R) : P := h.2.2.2.2.1
theorem prl4 (h : p0 ∧ p1 ∧ p2 ∧ p3 ∧ P) : P := h.2.2.2.2
theorem prj5 (h : p0 ∧ p1 ∧ p2 ∧ p3 ∧ p4 ∧ P ∧ R) : P := h.2.2.2.2.2.1
theorem prl5 (h : p0 ∧ p1 ∧ p2 ∧ p3 ∧ p4 ∧ P) : P := h.2.2.2.2.2
theorem prj6 (h : p0 ∧ p1 ∧ p2 ∧ p3 ∧ p4 ∧ p5 ∧ P ∧ R) : P := h.2.2.2.2.2.2.1
theorem prl6 (h : p0 ∧ p1 ∧ p2 ∧ p3 ∧ p4 ∧ p5 ∧ P) : P := h.2.2.2.2.2.2
theorem prj7 (h : p0 ∧ p1 ∧ p2 ∧ p3 ∧ p4 ∧ p5 ∧ p6 ∧ P ∧ R) : P := h.2.2.2.2.2.2.2.1
theorem prl7 (h : p0 ∧ p1 ∧ p2 ∧ p3 ∧ p4 ∧ p5 ∧ p6 ∧ P) : P := h.2.2.2.2.2.2.2
theorem prj8 (h : p0 ∧ p1 ∧ p2 ∧ p3 ∧ p4 ∧ p5 ∧ p6 ∧ p7 ∧ P ∧ R) : P := h.2.2.2.2.2.2.2.2.1
theorem prl8 (h : p0 ∧ p1 ∧ p2 ∧ p3 ∧ p4 ∧ p5 ∧ p6 ∧ p7 ∧ P) : P := h.2.2.2.2.2.2.2.2
theorem prj9 (h : p0 ∧ p1 ∧ p2 ∧ p3 ∧ p4 ∧ p5 ∧ p6 ∧ p7 ∧ p8 ∧ P ∧ R) : P := h.2.2.2.2.2.2.2.2.2.1
theorem prl9 (h : p0 ∧ p1 ∧ p2 ∧ p3 ∧ p4 ∧ p5 ∧ p6 ∧ p7 ∧ p8 ∧ P) : P := h.2.2.2.2.2.2.2.2.2
end
end Mine.Internal
end
section
namespace Mine.Internal
structure KD (n : Nat) (o : Obj) : Prop where
  d : isD o = true
  k : ∀ e ∈ esOf o, ∃ x t, e.key = .str x t
  l : (esOf o).length ≤ n
noncomputable def putE (P : Params) (name : Str) (t : Tok) (v : Value) (o : Obj) : Obj := dictOf (putL name (PyData.keyHash P name) (.str name t) v (esOf o)) (putN name (esOf o) (nOf o))
theorem putL_mem {name : Str} {h : Int} {k v : Value} : ∀ {es : List DictEntry} {e : DictEntry}, e ∈ putL name h k v es → e.key = k ∨ ∃ e' ∈ es, e.key = e'.key
  | [], e, he => by rcases List.mem_singleton.mp he with rfl; exact .inl rfl
  | a :: r, e, he => by
    unfold putL at he
    split at he
    · rcases List.mem_cons.mp he with rfl | he
      · exact .inr ⟨a, .head _, rfl⟩
      · exact .inr ⟨e, .tail _ he, rfl⟩
    · rcases List.mem_cons.mp he with rfl | he
      · exact .inr ⟨e, .head _, rfl⟩
      · rcases putL_mem he with h | ⟨e', h1, h2⟩
        · exact .inl h
        · exact .inr ⟨e', .tail _ h1, h2⟩
theorem putL_len {name : Str} {h : Int} {k v : Value} : ∀ {es : List DictEntry}, (putL name h k v es).length ≤ es.length + 1
  | [] => Nat.le_refl _
  | a :: r => by
    unfold putL
    split
    · exact Nat.le_succ _
    · exact Nat.succ_le_succ putL_len
theorem putL_get {name : Str} {h : Int} {k v : Value} (hk : k.isStr name = true) : ∀ {es : List DictEntry}, (putL name h k v es).find? (·.key.isStr name) = some (match es.find? (·.key.isStr name) with | some e => ⟨e.hash, e.key, v⟩ | none => ⟨h, k, v⟩)
  | [] => by simp [putL, List.find?, hk]
  | a :: r => by
    unfold putL
    split
    · rename_i e; simp [List.find?, e]
    · rename_i e
      simp only [List.find?, e]
      exact putL_get hk
theorem putL_ne {name name' : Str} {h : Int} {k v : Value} (hk : k.isStr name = false) (hne : ∀ e : DictEntry, e.key.isStr name' = true → e.key.isStr name = false) : ∀ {es : List DictEntry}, (putL name' h k v es).find? (·.key.isStr name) = es.find? (·.key.isStr name)
  | [] => by simp [putL, List.find?, hk]
  | a :: r => by
    unfold putL
    split
    · rename_i e; simp [List.find?, hne a e]
    · simp only [List.find?]
      split
      · rfl
      · exact putL_ne hk hne
theorem esOf_put {P : Params} {name : Str} {t : Tok} {v : Value} {o : Obj} : esOf (putE P name t v o) = putL name (PyData.keyHash P name) (.str name t) v (esOf o) := by
  simp [putE, esOf, dictOf]
theorem KD.put {n : Nat} {P : Params} {name : Str} {t : Tok} {v : Value} {o : Obj} (D : KD n o) : KD (n + 1) (putE P name t v o) := by
  refine ⟨rfl, fun e he => ?_, ?_⟩
  · rw [esOf_put] at he
    rcases putL_mem he with h | ⟨e', h1, h2⟩
    · exact ⟨name, t, h⟩
    · rw [h2]; exact D.k e' h1
  · rw [esOf_put]; exact Nat.le_trans putL_len (Nat.succ_le_succ D.l)
theorem KD.none {n : Nat} {o : Obj} (D : KD n o) : (esOf o).any (·.refKey) = false := by
  rw [List.any_eq_false]
  intro e he
  obtain ⟨x, t, h⟩ := D.k e he
  simp [DictEntry.refKey, h]
theorem KD.some {n : Nat} {o : Obj} (D : KD n o) (name : Str) : (getL name (esOf o)).isSome = true := by
  unfold getL
  split
  · rfl
  · rw [D.none]; rfl
theorem get_put {P : Params} {name : Str} {t : Tok} {v : Value} {o o' : Obj} (h : o' = putE P name t v o) : getL name (esOf o') = some (some v) := by
  subst h
  unfold getL
  rw [esOf_put, putL_get (by simp [Value.isStr])]
  split <;> (rename_i q; cases q)
  split <;> rfl
theorem get_put' {n : Nat} {P : Params} {name name' : Str} {t : Tok} {v : Value} {o o' : Obj} {r : Option Value} (h : o' = putE P name' t v o) (D : KD n o) (ne : (name' == name) = false) (hl : getL name (esOf o) = some r) : getL name (esOf o') = some r := by
  subst h
  unfold getL at hl ⊢
  have hne : ∀ e : DictEntry, e.key.isStr name' = true → e.key.isStr name = false := fun e he => by
    cases q : e.key.isStr name with
    | false => rfl
    | true =>
      cases k : e.key <;> rw [k] at he q <;> simp [Value.isStr] at he q
      rw [← he, ← q] at ne
      simp at ne
  rw [(D.put (P := P) (name := name') (t := t) (v := v)).none, esOf_put, putL_ne (by simpa [Value.isStr] using ne) hne]
  rw [D.none] at hl
  exact hl
theorem put_step {P : Params} {name : Str} {t : Tok} {v : Value} {o o' x : Obj} (h : o' = putE P name t v o) (e : o = x) : o' = putE P name t v x := e ▸ h
section
variable {prog : Program} {w : World} {A : Around} {E : Value → Shared → Prop} {K : Frag} {x C dx L : Addr} {h₀ hp : Heap} {m : Str → Option Value} {news : List (Addr × Obj)} {nw : Obj → List (Addr × Obj)} {od : Obj} {name : Str} {v : Value}
  {gs : Array GenState} {dr : Drawn} {tk : Nat} {os : OsState} {sl : Array (Option Value)} {i j n : Nat}
theorem set_NM {Q : Unit → Shared → Prop} (F : Fr h₀ L hp m) (X₀ : K.In h₀) (N : News h₀ L hp news) (h1 : nth news i = some (x, (⟨.ref C, some dx, .plain, sl⟩ : Obj))) (h2 : nth news j = some (dx, od)) (ok : setOk K C name = true)
    (D : KD n od) (hn : n < 1000) (U : ∀ od', Upd dx od od' news (nw od')) (h : ∀ h' tk t od', od' = putE w.params name t v od → KD (n + 1) od' → Fr h₀ L h' m → News h₀ L h' (nw od') → Q () ⟨h', gs, dr, tk, os⟩) : wpAny (model prog w) A (setAttr (.ref x) name v) Q E ⟨hp, gs, dr, tk, os⟩ := by
  obtain ⟨k1, k2⟩ := Bool.and_eq_true_iff.mp ok
  obtain ⟨k1, k3⟩ := Bool.and_eq_true_iff.mp k1
  obtain ⟨k1, k4⟩ := Bool.and_eq_true_iff.mp k1
  have q1 : findIn K (.ref C) "__setattr__" = some (some (.builtin "object.__setattr__")) := by
    split at k1
    · rename_i e; rw [e, beq_iff_eq.mp k1]
    · cases k1
  have q2 : takerIn K C name = some none := by
    split at k3
    · assumption
    · cases k3
  have h2' := nth_mem h2
  have U' := U (putE w.params name (tk + 1) v od)
  rw [show putE w.params name (tk + 1) v od = dictOf (putL name (PyData.keyHash w.params name) (.str name (tk + 1)) v (esOf od)) (putN name (esOf od) (nOf od)) from rfl] at U'
  have e1 := isD_of D.d
  rw [e1] at h2'
  have U2 : Upd dx (dictOf (esOf od) (nOf od)) (dictOf (putL name (PyData.keyHash w.params name) (.str name (tk + 1)) v (esOf od)) (putN name (esOf od) (nOf od))) news _ := e1 ▸ U'
  exact set_dict (s := ⟨hp, gs, dr, tk, os⟩) F X₀ N (InstAt.of_news N (nth_mem h1) h2') rfl q1 k4 q2 k2 (D.some name) rfl U2 (Nat.le_trans putL_len (Nat.le_trans (Nat.succ_le_succ D.l) hn)) (fun h' F' N' => h h' _ (tk + 1) _ rfl D.put F' N')
theorem set_N {Q : Unit → Shared → Prop} (F : Fr h₀ L hp m) (X₀ : (pre.heap_1 w.params).In h₀) (N : News h₀ L hp news) (h1 : nth news i = some (x, (⟨.ref C, some dx, .plain, sl⟩ : Obj))) (h2 : nth news j = some (dx, od)) (ok : ∀ P, setOk (pre.heap_1 P) C name = true)
    (D : KD n od) (hn : n < 1000) (U : ∀ od', Upd dx od od' news (nw od')) (h : ∀ h' tk t od', od' = putE w.params name t v od → KD (n + 1) od' → Fr h₀ L h' m → News h₀ L h' (nw od') → Q () ⟨h', gs, dr, tk, os⟩) : wpAny (model prog w) A (setAttr (.ref x) name v) Q E ⟨hp, gs, dr, tk, os⟩ := set_NM F X₀ N h1 h2 (ok _) D hn U h
end
theorem eq_of {o x : Obj} {f : Obj → Obj} (e : o = x) (h : x = f x) : o = f o := e ▸ h
theorem all_of {o x : Obj} {f : Obj → Bool} (e : o = x) (h : f x = true) : f o = true := e ▸ h
theorem kd_nil : KD 0 (dictOf [] 0) := { d := rfl, k := (fun _ h => nomatch h), l := Nat.le_refl _ }
section
variable {a b c d e f g1 g2 p : Addr × Obj} {r : List (Addr × Obj)}
theorem nth_7 : nth (a :: b :: c :: d :: e :: f :: g1 :: p :: r) 7 = some p := rfl
theorem nth_8 : nth (a :: b :: c :: d :: e :: f :: g1 :: g2 :: p :: r) 8 = some p := rfl
end
end Mine.Internal
end
section
open PySem PySem.W PySem.Spec PySem.Calls PyProof.Rows
namespace Mine.Internal
noncomputable abbrev tx (l : List Nat) : Str := ⟨l.toArray⟩
theorem tx_len (l : List Nat) : (tx l).length = l.length := by show l.toArray.size = _; simp
theorem tx_add (a b : List Nat) : tx a ++ tx b = tx (a ++ b) := by
  apply Str.ext'
  rw [Str.cps_append]
  simp
theorem cut_mid (l : List Nat) (p q : Nat) (h : p ≤ q) (h2 : q ≤ l.length) : Txt.slice (tx l) (some (p : Int)) (some (q : Int)) = tx ((l.drop p).take (q - p)) := by
  have := slice_closesL (x := tx l) (i := (p : Int)) (j := (q : Int)) (Int.natCast_nonneg p) (Int.ofNat_le.2 h) (by rw [tx_len]; exact Int.ofNat_le.2 h2)
  rw [eq_of_beq this]
  simp only [tx, Int.toNat_natCast]
  congr 3
  exact om_subn h
theorem cut_last (l : List Nat) (c : Nat) : Txt.slice (tx (l ++ [c])) none (some (-1)) = tx l := by
  have := slice_closes_to_neg (x := tx (l ++ [c])) (j := -1) (k := (l.length : Int)) (by decide) (by rw [tx_len]; simp; omega) (by rw [tx_len]; simp; omega)
  rw [eq_of_beq this]
  simp only [tx, Int.toNat_natCast]
  congr 1
  simp
theorem sp_is : Str.ofString " " = tx [32] := by decide +kernel
theorem cut_read (l : List Nat) (p q : Nat) (h : p ≤ q) (h2 : q ≤ l.length) : Txt.slice (Txt.slice (tx l) (some (p : Int)) (some (q : Int)) ++ Str.ofString " ") none (some (-1)) = tx ((l.drop p).take (q - p)) := by
  rw [cut_mid l p q h h2, sp_is, tx_add, cut_last]
end Mine.Internal
namespace Mine.Internal
open PySem.Builtin PySem.Builtin.Str
theorem nl_is : Str.ofString "\n" = ⟨#[10]⟩ := by decide +kernel
theorem gives_find4 (x y : Str) (i : Int) (t u v v2 : Tok) : Gives («str.find» ⟨[.str x t, .str y u, .int i v, .int (x.length : Int) v2], []⟩) (.int (Txt.find3 x y i)) := by
  have e : min ((max 0 (if (x.length : Int) < 0 then (x.length : Int) + x.length else (x.length : Int))).toNat) x.length = x.length := by
    rw [if_neg (Int.not_lt.2 (Int.natCast_nonneg _)), om_max]; exact Nat.min_self _
  show Gives (match occurrences x y (fromIndex x.length i) (min ((max 0 (if (x.length : Int) < 0 then (x.length : Int) + x.length else (x.length : Int))).toNat) x.length) 1 with | k :: _ => retInt k | [] => (do rule "str.find.not-found"; retInt (-1))) _
  rw [e]
  unfold Txt.find3
  cases occurrences x y (fromIndex x.length i) x.length 1 with
  | nil => exact .rule (.of_eq rfl)
  | cons k _ => exact .of_eq rfl
theorem args_find4 (a b c d : Value) : argsOk "str.find" ⟨[a, b, c, d], []⟩ := by unfold argsOk; kernel_rfl
theorem find4 {prog : Program} {w : World} {A : Around} {E : Value → Shared → Prop} {s : Shared} {x y : Str} {t u v v2 : Tok} {i : Int} {Q : Value → Shared → Prop}
    (hq : Q (.int (Txt.find3 x y i) s.toks) { s with toks := s.toks + 1 }) : wpAny (model prog w) A (call (.builtin "str.find") [.str x t, .str y u, .int i v, .int (x.length : Int) v2]) Q E s :=
  call_gives F.slot_str_find (typeIs_str _ _ _) F.entry_str_find (args_find4 _ _ _ _) (gives_find4 x y i t u v v2) hq

noncomputable def skipLine' : List Nat → List Nat
  | [] => []
  | c :: r => if c == 10 then r else skipLine' r
theorem skip_none : ∀ (l : List Nat), (∀ c ∈ l, c ≠ 10) → skipLine' l = []
  | [], _ => rfl
  | c :: r, h => by
    unfold skipLine'
    have := h c (.head _)
    rw [if_neg (by simpa using this)]
    exact skip_none r fun x hx => h x (.tail _ hx)
theorem skip_at : ∀ (k : Nat) (l : List Nat), (∀ v, v < k → l[v]? ≠ some 10) → l[k]? = some 10 → skipLine' l = l.drop (k + 1)
  | 0, [], _, h => by simp at h
  | 0, c :: r, _, h => by
    have : c = 10 := by simpa using h
    subst this
    rfl
  | k + 1, [], _, h => by simp at h
  | k + 1, c :: r, h, h1 => by
    have h0 := h 0 (Nat.succ_pos k)
    unfold skipLine'
    have : c ≠ 10 := by simpa using h0
    rw [if_neg (by simpa using this)]
    rw [skip_at k r (fun v hv => by have := h (v + 1) (Nat.succ_lt_succ hv); simpa using this) (by simpa using h1)]
    rfl
theorem getD_tx (l : List Nat) (v : Nat) : (tx l).cps.getD v 0 = l.getD v 0 := by
  show l.toArray.getD v 0 = _
  rw [Array.getD_eq_getD_getElem?, List.getElem?_toArray, List.getD_eq_getElem?_getD]
theorem line_spec (l : List Nat) (p : Nat) (h : p ≤ l.length) :
    (Txt.find3 (tx l) (Str.ofString "\n") p = -1 ∧ skipLine' (l.drop p) = []) ∨
    ∃ k : Nat, Txt.find3 (tx l) (Str.ofString "\n") p = (k : Int) ∧ p ≤ k ∧ k < l.length ∧ skipLine' (l.drop p) = l.drop (k + 1) := by
  have e : fromIndex (tx l).length (p : Int) = p := by
    unfold fromIndex
    rw [if_neg (Int.not_lt.2 (Int.natCast_nonneg _))]; exact om_max
  rw [nl_is]
  rcases StrLaws.find3_spec (tx l) 10 p with ⟨h1, h2⟩ | ⟨k, h1, h2, h3, h4, h5⟩
  · refine .inl ⟨h1, skip_none _ fun c hc => ?_⟩
    obtain ⟨v, hv⟩ := List.getElem?_of_mem hc
    rw [List.getElem?_drop] at hv
    obtain ⟨hlt, hv'⟩ := List.getElem?_eq_some_iff.mp hv
    have := h2 (p + v) (by rw [e]; exact Nat.le_add_right p v) (by rw [tx_len]; exact hlt)
    rw [getD_tx, List.getD_eq_getElem?_getD, hv] at this
    exact this
  · rw [e] at h2 h5
    rw [tx_len] at h3
    refine .inr ⟨k, h1, h2, h3, ?_⟩
    rw [getD_tx, List.getD_eq_getElem?_getD] at h4
    have hk : l[k]? = some 10 := by
      rw [List.getElem?_eq_getElem h3] at h4 ⊢
      exact congrArg some h4
    rw [skip_at (k - p) (l.drop p) (fun v hv => ?_) (by rw [List.getElem?_drop, show p + (k - p) = k from Nat.add_sub_cancel' h2]; exact hk)]
    · rw [List.drop_drop]
      congr 1
      exact om_pk1 h2
    · rw [List.getElem?_drop]
      intro q
      have := h5 (p + v) (Nat.le_add_right p v) (om_pv hv)
      rw [getD_tx, List.getD_eq_getElem?_getD, q] at this
      exact this rfl
end Mine.Internal
namespace Mine.Internal
theorem size_sl {x : Str} {i j : Option Int} (h : x.length < 1000000) : (Txt.slice x i j ++ Str.ofString " ").length ≤ sizeLine := by
  have h1 := Txt.slice_le x i j
  have h2 : (tx [32]).length = 1 := rfl
  rw [sizeLine_eq, Str.length_append, sp_is, h2]
  exact Nat.le_trans (Nat.succ_le_succ (Nat.le_trans h1 (Nat.le_of_lt h))) (Nat.le_of_ble_eq_true rfl)
theorem size_slc {x : Str} {i j : Option Int} (h : x.length < 1000000) : (Txt.slice x i j).length + (Str.ofString " ").length ≤ sizeLine := by
  have := size_sl (i := i) (j := j) h
  rwa [Str.length_append] at this
end Mine.Internal

end
section
namespace Mine.Internal
noncomputable def word : Nat → List Nat
  | 0 => [98]
  | 1 => []
  | 2 => [105, 116, 39, 115]
  | 3 => [97, 32, 98]
  | 4 => [35, 92]
  | _ => []
noncomputable def written : Nat → Nat → List Nat
  | 0, 0 => [39, 98, 39]
  | 0, 1 => [34, 98, 34]
  | 0, 2 => [92, 98]
  | 1, 0 => [39, 39]
  | 1, 1 => [34, 34]
  | 1, 2 => [39, 39]
  | 2, 0 => [39, 105, 116, 39, 92, 39, 39, 115, 39]
  | 2, 1 => [34, 105, 116, 39, 115, 34]
  | 2, 2 => [92, 105, 92, 116, 92, 39, 92, 115]
  | 3, 0 => [39, 97, 32, 98, 39]
  | 3, 1 => [34, 97, 32, 98, 34]
  | 3, 2 => [92, 97, 92, 32, 92, 98]
  | 4, 0 => [39, 35, 92, 39]
  | 4, 1 => [34, 35, 92, 92, 34]
  | 4, 2 => [92, 35, 92, 92]
  | _, _ => []
noncomputable def sepr : Nat → List Nat
  | 0 => [32]
  | 1 => [9, 10]
  | 2 => [32, 35, 39, 10]
  | 3 => [13]
  | _ => []
noncomputable def left : Nat → List Nat
  | 0 => []
  | 1 => [10]
  | 2 => [35, 39, 10]
  | 3 => []
  | _ => []
noncomputable def tend : Nat → List Nat
  | 0 => [39, 120]
  | 1 => [34]
  | 2 => [92]
  | _ => []

noncomputable def isWs (c : Nat) : Bool := c == 32 || c == 9 || c == 13 || c == 10
noncomputable def skipLine : List Nat → List Nat
  | [] => []
  | c :: r => if c == 10 then r else skipLine r
theorem skipLine_le : ∀ l : List Nat, (skipLine l).length ≤ l.length
  | [] => Nat.le_refl _
  | c :: r => by
    unfold skipLine
    split
    · simp
    · simp only [List.length_cons]; exact Nat.le_succ_of_le (skipLine_le r)

inductive Out where
  | tok (t : List Nat) (q : Bool) (st : Option Nat) (rest : List Nat)
  | bad

noncomputable def rd : Nat → List Nat → Option Nat → Bool → Nat → List Nat → Out
  | 0, _, _, _, _, _ => .bad
  | _ + 1, cs, none, q, _, _ => .tok [] q none cs.tail
  | _ + 1, [], some s, q, _, t => if s == 32 then .tok t q none [] else if s == 39 || s == 34 || s == 92 then .bad else .tok t q none []
  | n + 1, c :: r, some s, q, e, t =>
    if s == 32 then
      if isWs c then (if !t.isEmpty || q then .tok t q (some 32) r else rd n r (some 32) q e t)
      else if c == 35 then rd n (skipLine r) (some 32) q e t
      else if c == 92 then rd n r (some 92) q 97 t
      else if c == 39 || c == 34 then rd n r (some c) q e t
      else rd n r (some 97) q e [c]
    else if s == 39 || s == 34 then
      if c == s then rd n r (some 97) true e t
      else if c == 92 && s == 34 then rd n r (some 92) true s t
      else rd n r (some s) true e (t ++ [c])
    else if s == 92 then
      rd n r (some e) q e ((if (e == 39 || e == 34) && c != 92 && c != e then t ++ [92] else t) ++ [c])
    else
      if isWs c then (if !t.isEmpty || q then .tok t q (some 32) r else rd n r (some 32) q e t)
      else if c == 35 then (if !t.isEmpty || q then .tok t q (some 32) (skipLine r) else rd n (skipLine r) (some 32) q e t)
      else if c == 39 || c == 34 then rd n r (some c) q e t
      else if c == 92 then rd n r (some 92) q 97 t
      else rd n r (some 97) q e (t ++ [c])

noncomputable def Rd (cs : List Nat) (o : Out) : Prop := ∀ n, cs.length < n → rd n cs (some 32) false 32 [] = o

theorem rd_left (j : Nat) (r : List Nat) (o : Out) (h : Rd r o) : Rd (left j ++ r) o := by
  intro n hn
  unfold left at hn ⊢
  split at hn <;> simp only [List.nil_append, List.cons_append, List.length_cons] at hn ⊢
  · exact h n hn
  · obtain ⟨m, rfl⟩ := om_ex hn
    exact h m (Nat.lt_of_succ_lt_succ hn)
  · obtain ⟨m, rfl⟩ := om_ex hn
    exact h m (Nat.lt_of_succ_lt (Nat.lt_of_succ_lt (Nat.lt_of_succ_lt_succ hn)))
  · exact h n hn
  · exact h n hn

theorem rd_fuel (K : Nat) {n : Nat} {cs : List Nat} {o : Out} {st : Option Nat} {q : Bool} {e : Nat} {t : List Nat} (hn : cs.length < n) (hK : K ≤ cs.length) (h : ∀ m, rd (m + K) cs st q e t = o) : rd n cs st q e t = o := by
  have := h (n - K)
  rwa [Nat.sub_add_cancel (Nat.le_of_lt (Nat.lt_of_le_of_lt hK hn))] at this
theorem lt_z {P : Nat → Prop} (k : Nat) (h : k < 0) : P k := absurd h (Nat.not_lt_zero k)
theorem lt_s {P : Nat → Prop} {n : Nat} (h0 : P 0) (h : ∀ k, k < n → P (k + 1)) : ∀ k, k < n + 1 → P k := fun k => Nat.casesOn k (fun _ => h0) (fun k hk => h k (Nat.lt_of_succ_lt_succ hk))
theorem lt3 {P : Nat → Prop} (h0 : P 0) (h1 : P 1) (h2 : P 2) : ∀ k, k < 3 → P k := lt_s h0 (lt_s h1 (lt_s (P := fun k => P (k + 1 + 1)) h2 lt_z))
theorem lt4 {P : Nat → Prop} (h0 : P 0) (h1 : P 1) (h2 : P 2) (h3 : P 3) : ∀ k, k < 4 → P k := lt_s h0 (lt3 h1 h2 h3)
theorem lt5 {P : Nat → Prop} (h0 : P 0) (h1 : P 1) (h2 : P 2) (h3 : P 3) (h4 : P 4) : ∀ k, k < 5 → P k := lt_s h0 (lt4 h1 h2 h3 h4)
noncomputable def WordOk (r : List Nat) (k w j : Nat) : Prop := ∃ q, (!(word k).isEmpty || q) = true ∧ Rd (written k w ++ sepr j ++ r) (.tok (word k) q (some 32) (left j ++ r))
theorem rd_case (K : Nat) (q : Bool) {k w j : Nat} {r : List Nat} (hq : (!(word k).isEmpty || q) = true) (hl : Nat.ble K (written k w ++ sepr j).length = true) (h : ∀ m, rd (m + K) (written k w ++ sepr j ++ r) (some 32) false 32 [] = .tok (word k) q (some 32) (left j ++ r)) :
    WordOk r k w j :=
  ⟨q, hq, fun _ hn => rd_fuel K hn (by rw [List.length_append]; exact Nat.le_trans (Nat.le_of_ble_eq_true hl) (Nat.le_add_right _ _)) h⟩
theorem rd_word (r : List Nat) : ∀ (k w j : Nat), k < 5 → w < 3 → j < 4 → ∃ q, (!(word k).isEmpty || q) = true ∧ Rd (written k w ++ sepr j ++ r) (.tok (word k) q (some 32) (left j ++ r)) := by
  have h := lt5 (P := fun k => ∀ w, w < 3 → ∀ j, j < 4 → WordOk r k w j) (lt3 (P := fun w => ∀ j, j < 4 → WordOk r 0 w j) (lt4 (P := WordOk r 0 0) (rd_case 4 true rfl rfl fun _ => rfl) (rd_case 4 true rfl rfl fun _ => rfl) (rd_case 4 true rfl rfl fun _ => rfl) (rd_case 4 true rfl rfl fun _ => rfl)) (lt4 (P := WordOk r 0 1) (rd_case 4 true rfl rfl fun _ => rfl) (rd_case 4 true rfl rfl fun _ => rfl) (rd_case 4 true rfl rfl fun _ => rfl) (rd_case 4 true rfl rfl fun _ => rfl)) (lt4 (P := WordOk r 0 2) (rd_case 3 false rfl rfl fun _ => rfl) (rd_case 3 false rfl rfl fun _ => rfl) (rd_case 3 false rfl rfl fun _ => rfl) (rd_case 3 false rfl rfl fun _ => rfl)))
    (lt3 (P := fun w => ∀ j, j < 4 → WordOk r 1 w j) (lt4 (P := WordOk r 1 0) (rd_case 3 true rfl rfl fun _ => rfl) (rd_case 3 true rfl rfl fun _ => rfl) (rd_case 3 true rfl rfl fun _ => rfl) (rd_case 3 true rfl rfl fun _ => rfl)) (lt4 (P := WordOk r 1 1) (rd_case 3 true rfl rfl fun _ => rfl) (rd_case 3 true rfl rfl fun _ => rfl) (rd_case 3 true rfl rfl fun _ => rfl) (rd_case 3 true rfl rfl fun _ => rfl)) (lt4 (P := WordOk r 1 2) (rd_case 3 true rfl rfl fun _ => rfl) (rd_case 3 true rfl rfl fun _ => rfl) (rd_case 3 true rfl rfl fun _ => rfl) (rd_case 3 true rfl rfl fun _ => rfl)))
    (lt3 (P := fun w => ∀ j, j < 4 → WordOk r 2 w j) (lt4 (P := WordOk r 2 0) (rd_case 10 true rfl rfl fun _ => rfl) (rd_case 10 true rfl rfl fun _ => rfl) (rd_case 10 true rfl rfl fun _ => rfl) (rd_case 10 true rfl rfl fun _ => rfl)) (lt4 (P := WordOk r 2 1) (rd_case 7 true rfl rfl fun _ => rfl) (rd_case 7 true rfl rfl fun _ => rfl) (rd_case 7 true rfl rfl fun _ => rfl) (rd_case 7 true rfl rfl fun _ => rfl)) (lt4 (P := WordOk r 2 2) (rd_case 9 false rfl rfl fun _ => rfl) (rd_case 9 false rfl rfl fun _ => rfl) (rd_case 9 false rfl rfl fun _ => rfl) (rd_case 9 false rfl rfl fun _ => rfl)))
    (lt3 (P := fun w => ∀ j, j < 4 → WordOk r 3 w j) (lt4 (P := WordOk r 3 0) (rd_case 6 true rfl rfl fun _ => rfl) (rd_case 6 true rfl rfl fun _ => rfl) (rd_case 6 true rfl rfl fun _ => rfl) (rd_case 6 true rfl rfl fun _ => rfl)) (lt4 (P := WordOk r 3 1) (rd_case 6 true rfl rfl fun _ => rfl) (rd_case 6 true rfl rfl fun _ => rfl) (rd_case 6 true rfl rfl fun _ => rfl) (rd_case 6 true rfl rfl fun _ => rfl)) (lt4 (P := WordOk r 3 2) (rd_case 7 false rfl rfl fun _ => rfl) (rd_case 7 false rfl rfl fun _ => rfl) (rd_case 7 false rfl rfl fun _ => rfl) (rd_case 7 false rfl rfl fun _ => rfl)))
    (lt3 (P := fun w => ∀ j, j < 4 → WordOk r 4 w j) (lt4 (P := WordOk r 4 0) (rd_case 5 true rfl rfl fun _ => rfl) (rd_case 5 true rfl rfl fun _ => rfl) (rd_case 5 true rfl rfl fun _ => rfl) (rd_case 5 true rfl rfl fun _ => rfl)) (lt4 (P := WordOk r 4 1) (rd_case 6 true rfl rfl fun _ => rfl) (rd_case 6 true rfl rfl fun _ => rfl) (rd_case 6 true rfl rfl fun _ => rfl) (rd_case 6 true rfl rfl fun _ => rfl)) (lt4 (P := WordOk r 4 2) (rd_case 5 false rfl rfl fun _ => rfl) (rd_case 5 false rfl rfl fun _ => rfl) (rd_case 5 false rfl rfl fun _ => rfl) (rd_case 5 false rfl rfl fun _ => rfl)))
  exact fun k w j hk hw hj => h k hk w hw j hj
theorem rd_pos {n : Nat} {l : List Nat} (h : l.length < n) : ∃ m, n = m + 1 := om_ex h
theorem rd_nil : Rd [] (.tok [] false none []) := fun n hn => by
  obtain ⟨m, rfl⟩ := rd_pos hn
  rfl
theorem rd_torn : ∀ y, y < 3 → Rd (tend y) .bad := by
  intro y hy n hn
  match y, hn with
  | 0, hn =>
    obtain ⟨m, rfl⟩ : ∃ m, n = m + 3 := ⟨n - 3, by simp only [tend, List.length_cons, List.length_nil] at hn; exact om_n3 hn⟩
    rfl
  | 1, hn =>
    obtain ⟨m, rfl⟩ : ∃ m, n = m + 2 := ⟨n - 2, by simp only [tend, List.length_cons, List.length_nil] at hn; exact om_n2 hn⟩
    rfl
  | 2, hn =>
    obtain ⟨m, rfl⟩ : ∃ m, n = m + 2 := ⟨n - 2, by simp only [tend, List.length_cons, List.length_nil] at hn; exact om_n2 hn⟩
    rfl
  | y + 3, hn => exact (no3 hy).elim

inductive Reads : List Nat → List Nat → Bool → Prop where
  | fin {cs : List Nat} (h : Rd cs (.tok [] false none [])) : Reads cs [] false
  | torn {cs : List Nat} (h : Rd cs .bad) : Reads cs [] true
  | word {cs rest : List Nat} {k : Nat} {ks : List Nat} {b q : Bool} (hk : k < 5) (hq : (!(word k).isEmpty || q) = true) (h : Rd cs (.tok (word k) q (some 32) rest)) (r : Reads rest ks b) : Reads cs (k :: ks) b

structure Pc where
  k : Nat
  w : Nat
  j : Nat
noncomputable def Pc.ok (p : Pc) : Prop := p.k < 5 ∧ p.w < 3 ∧ p.j < 4
noncomputable def Pc.text (p : Pc) : List Nat := written p.k p.w ++ sepr p.j
noncomputable def endText : Option Nat → List Nat
  | none => []
  | some y => tend y
noncomputable def EndOk : Option Nat → Prop
  | none => True
  | some y => y < 3
theorem reads_left {j : Nat} {r ks : List Nat} {b : Bool} (h : Reads r ks b) : Reads (left j ++ r) ks b := by
  cases h with
  | fin h => exact .fin (rd_left j r _ h)
  | torn h => exact .torn (rd_left j r _ h)
  | word hk hq h r' => exact .word hk hq (rd_left j r _ h) r'
theorem reads_text : ∀ (ps : List Pc) (e : Option Nat), (∀ p ∈ ps, p.ok) → EndOk e → Reads (ps.flatMap Pc.text ++ endText e) (ps.map Pc.k) e.isSome
  | [], none, _, _ => .fin rd_nil
  | [], some y, _, h => .torn (rd_torn y h)
  | p :: ps, e, hp, he => by
    obtain ⟨hk, hw, hj⟩ := hp p (.head _)
    obtain ⟨q, hq, h⟩ := rd_word (ps.flatMap Pc.text ++ endText e) p.k p.w p.j hk hw hj
    have ih := reads_text ps e (fun x hx => hp x (.tail _ hx)) he
    have e1 : (p :: ps).flatMap Pc.text ++ endText e = written p.k p.w ++ sepr p.j ++ (ps.flatMap Pc.text ++ endText e) := by
      simp [List.flatMap_cons, Pc.text, List.append_assoc]
    rw [e1]
    exact .word hk hq h (reads_left ih)

theorem word_inj : ∀ a, a < 5 → ∀ b, b < 5 → word a = word b → a = b := by decide

noncomputable def cmpR : List Nat → Bool → List Nat → Bool → Option Int
  | [], ta, rb, tb => if ta then none else match rb with
    | [] => if tb then none else some 0
    | b :: _ => some (7 * (-1 - (b : Int)))
  | a :: ra, ta, rb, tb => match rb with
    | [] => if tb then none else some (7 * ((a : Int) - -1))
    | b :: rb => if a = b then cmpR ra ta rb tb else some (7 * ((a : Int) - b))

noncomputable def due : List Nat → Bool → List Nat → Bool → Option Int
  | [], ta, rb, tb => if ta then none else match rb with
    | [] => if tb then none else some 0
    | b :: _ => some (-1 - (b : Int))
  | a :: ra, ta, rb, tb => match rb with
    | [] => if tb then none else some ((a : Int) - -1)
    | b :: rb => if a = b then due ra ta rb tb else some ((a : Int) - b)
theorem cmp_due : ∀ (ra : List Nat) (ta : Bool) (rb : List Nat) (tb : Bool), cmpR ra ta rb tb = (due ra ta rb tb).map (7 * ·)
  | [], ta, [], tb => by cases ta <;> cases tb <;> rfl
  | [], ta, b :: rb, tb => by cases ta <;> rfl
  | a :: ra, ta, [], tb => by cases tb <;> rfl
  | a :: ra, ta, b :: rb, tb => by
    show (if a = b then _ else _) = Option.map _ (if a = b then _ else _)
    by_cases h : a = b
    · rw [if_pos h, if_pos h]; exact cmp_due ra ta rb tb
    · rw [if_neg h, if_neg h]; rfl
end Mine.Internal

end
section
namespace Mine.Internal
noncomputable abbrev lexD (P : Params) (k v : Nat → Tok) (WC : Str) (st pb fs : Addr) (state : Value) (lineno : Int) (t1 : Tok) (token : Str) (t2 : Tok) : Obj :=
  dictOf [ent P (Str.ofString "instream") (k 0) (.ref st), ent P (Str.ofString "infile") (k 1) .none, ent P (Str.ofString "posix") (k 2) (.bool true), ent P (Str.ofString "eof") (k 3) .none,
    ent P (Str.ofString "commenters") (k 4) (.str (Str.ofString "#") (v 4)), ent P (Str.ofString "wordchars") (k 5) (.str WC (v 5)), ent P (Str.ofString "whitespace") (k 6) (.str (Str.ofString " \t\r\n") (v 6)),
    ent P (Str.ofString "whitespace_split") (k 7) (.bool true), ent P (Str.ofString "quotes") (k 8) (.str (Str.ofString "'\"") (v 8)), ent P (Str.ofString "escape") (k 9) (.str (Str.ofString "\\") (v 9)),
    ent P (Str.ofString "escapedquotes") (k 10) (.str (Str.ofString "\"") (v 10)), ent P (Str.ofString "state") (k 11) state, ent P (Str.ofString "pushback") (k 12) (.ref pb), ent P (Str.ofString "lineno") (k 13) (.int lineno t1),
    ent P (Str.ofString "debug") (k 14) (.int 0 (v 14)), ent P (Str.ofString "token") (k 15) (.str token t2), ent P (Str.ofString "filestack") (k 16) (.ref fs), ent P (Str.ofString "source") (k 17) .none,
    ent P (Str.ofString "_punctuation_chars") (k 18) (.str (Str.ofString "") (v 18))] 19
section
open PySem.Builtin PySem.Builtin.Str
variable {prog : Program} {w : World} {A : Around} {E : Value → Shared → Prop} {Q : Value → Shared → Prop} {s : Shared} {c d : Nat} {t u : Tok}
theorem in_one {x : Str} (h : Q (.bool (decide (c ∈ x.cps.toList))) s) : wpAny (model prog w) A (compareOp .In (.str (tx [c]) u) (.str x t)) Q E s := by
  refine PySem.P.in_str ?_
  have : (!(occurrences x (tx [c]) 0 x.length 1).isEmpty) = decide (c ∈ x.cps.toList) := StrLaws.found_one x c
  rw [this]; exact h
theorem lit_ws : Str.ofString " \t\r\n" = tx [32, 9, 13, 10] := by decide +kernel
theorem lit_hash : Str.ofString "#" = tx [35] := by decide +kernel
theorem lit_esc : Str.ofString "\\" = tx [92] := by decide +kernel
theorem lit_quo : Str.ofString "'\"" = tx [39, 34] := by decide +kernel
theorem lit_dq : Str.ofString "\"" = tx [34] := by decide +kernel
theorem lit_none : Str.ofString "" = tx [] := by decide +kernel
theorem lit_a : Str.ofString "a" = tx [97] := by decide +kernel
theorem in_ws (h : Q (.bool (isWs c)) s) : wpAny (model prog w) A (compareOp .In (.str (tx [c]) u) (.str (Str.ofString " \t\r\n") t)) Q E s := by
  refine in_one ?_
  have : decide (c ∈ (Str.ofString " \t\r\n").cps.toList) = isWs c := by
    rw [lit_ws]; rw [Bool.eq_iff_iff]; simp [tx, isWs, or_assoc]
  rw [this]; exact h
theorem in_hash (h : Q (.bool (c == 35)) s) : wpAny (model prog w) A (compareOp .In (.str (tx [c]) u) (.str (Str.ofString "#") t)) Q E s := by
  refine in_one ?_
  have : decide (c ∈ (Str.ofString "#").cps.toList) = (c == 35) := by
    rw [lit_hash]; rw [Bool.eq_iff_iff]; simp [tx]
  rw [this]; exact h
theorem in_esc (h : Q (.bool (c == 92)) s) : wpAny (model prog w) A (compareOp .In (.str (tx [c]) u) (.str (Str.ofString "\\") t)) Q E s := by
  refine in_one ?_
  have : decide (c ∈ (Str.ofString "\\").cps.toList) = (c == 92) := by
    rw [lit_esc]; rw [Bool.eq_iff_iff]; simp [tx]
  rw [this]; exact h
theorem in_quo (h : Q (.bool (c == 39 || c == 34)) s) : wpAny (model prog w) A (compareOp .In (.str (tx [c]) u) (.str (Str.ofString "'\"") t)) Q E s := by
  refine in_one ?_
  have : decide (c ∈ (Str.ofString "'\"").cps.toList) = (c == 39 || c == 34) := by
    rw [lit_quo]; rw [Bool.eq_iff_iff]; simp [tx]
  rw [this]; exact h
theorem in_dq (h : Q (.bool (c == 34)) s) : wpAny (model prog w) A (compareOp .In (.str (tx [c]) u) (.str (Str.ofString "\"") t)) Q E s := by
  refine in_one ?_
  have : decide (c ∈ (Str.ofString "\"").cps.toList) = (c == 34) := by
    rw [lit_dq]; rw [Bool.eq_iff_iff]; simp [tx]
  rw [this]; exact h
theorem in_none (h : Q (.bool false) s) : wpAny (model prog w) A (compareOp .In (.str (tx [c]) u) (.str (Str.ofString "") t)) Q E s := by
  refine in_one ?_
  have : decide (c ∈ (Str.ofString "").cps.toList) = false := by
    rw [lit_none]; simp [tx]
  rw [this]; exact h
theorem eq_nl (h : Q (.bool (c == 10)) s) : wpAny (model prog w) A (compareOp .Eq (.str (tx [c]) u) (.str (Str.ofString "\n") t)) Q E s := by
  refine PySem.P.eq_str ?_
  have : ((tx [c]).cps.toList == (Str.ofString "\n").cps.toList) = (c == 10) := by
    rw [nl_is]; simp [tx]
  rw [this]; exact h
theorem eq_sp (h : Q (.bool (c == 32)) s) : wpAny (model prog w) A (compareOp .Eq (.str (tx [c]) u) (.str (Str.ofString " ") t)) Q E s := by
  refine PySem.P.eq_str ?_
  have : ((tx [c]).cps.toList == (Str.ofString " ").cps.toList) = (c == 32) := by
    rw [sp_is]; simp [tx]
  rw [this]; exact h
theorem eq_one (h : Q (.bool (c == d)) s) : wpAny (model prog w) A (compareOp .Eq (.str (tx [c]) u) (.str (tx [d]) t)) Q E s := by
  refine PySem.P.eq_str ?_
  have : ((tx [c]).cps.toList == (tx [d]).cps.toList) = (c == d) := by simp [tx]
  rw [this]; exact h
theorem ne_one (h : Q (.bool (c != d)) s) : wpAny (model prog w) A (compareOp .NotEq (.str (tx [c]) u) (.str (tx [d]) t)) Q E s := by
  refine PySem.P.ne_str ?_
  have : ((tx [c]).cps.toList != (tx [d]).cps.toList) = (c != d) := by simp [tx, bne]
  rw [this]; exact h
end
noncomputable def Stop (P : Prop) : Prop := P
noncomputable def Mark : Prop := True
theorem stop_here {P : Prop} (h : Stop P) : P := h
noncomputable def stV : Option Nat → Tok → Value
  | none, _ => .none
  | some c, t => .str (tx [c]) t
section
variable {prog : Program} {w : World} {A : Around} {E : Value → Shared → Prop} {Q : Value → Shared → Prop} {s : Shared} {a b : List Nat} {t u : Tok}
theorem iadd_tx (h : ∀ t' tk, Q (.str (tx (a ++ b)) t') { s with toks := tk }) (h1 : a.length < 1000000) (h2 : b.length < 1000) : wpAny (model prog w) A (inplaceOp .Add (.str (tx a) t) (.str (tx b) u)) Q E s := by
  refine PyProof.Rows.iadd_str (fun t' tk => ?_) ?_
  · rw [tx_add]; exact h t' tk
  · rw [tx_len, tx_len, sizeLine_eq]; exact om_a24 h1 h2
end
section
variable {prog : Program} {w : World} {A : Around} {E : Value → Shared → Prop} {s : Shared} {a : List Nat} {c : Nat} {t u : Tok}
theorem truthy_tx {Q : Bool → Shared → Prop} (hl : a.length < 1000000) (h : ∀ k, Q (!a.isEmpty) { s with toks := k }) : wpAny (model prog w) A (truthy (.str (tx a) t)) Q E s := by
  refine KXt.truthy ?_ (by rw [tx_len]; exact om_n24 hl) h
  rw [tx_len]
  cases a with
  | nil => rfl
  | cons x r => simp; omega
theorem truthy_chr {Q : Bool → Shared → Prop} (h : ∀ k, Q true { s with toks := k }) : wpAny (model prog w) A (truthy (.str (tx [c]) t)) Q E s := truthy_tx (Nat.le_of_ble_eq_true rfl) h
theorem eq_c {Q : Value → Shared → Prop} (hc : (c == 99) = false) (h : Q (.bool false) s) : wpAny (model prog w) A (compareOp .Eq (.str (tx [c]) u) (.str (Str.ofString "c") t)) Q E s := by
  refine PySem.P.eq_str ?_
  have e : Str.ofString "c" = tx [99] := by decide +kernel
  have : ((tx [c]).cps.toList == (Str.ofString "c").cps.toList) = (c == 99) := by
    rw [e]; simp [tx]
  rw [this, hc]; exact h
theorem eq_nil {Q : Value → Shared → Prop} (h : Q (.bool a.isEmpty) s) : wpAny (model prog w) A (compareOp .Eq (.str (tx a) u) (.str (Str.ofString "") t)) Q E s := by
  refine PySem.P.eq_str ?_
  have : ((tx a).cps.toList == (Str.ofString "").cps.toList) = a.isEmpty := by
    rw [lit_none]; cases a <;> simp [tx]
  rw [this]; exact h
end
section
variable {prog : Program} {w : World} {A : Around} {E : Value → Shared → Prop} {s : Shared} {c : Nat} {t u : Tok}
theorem notin_none {Q : Value → Shared → Prop} (h : Q (.bool true) s) : wpAny (model prog w) A (compareOp .NotIn (.str (tx [c]) u) (.str (Str.ofString "") t)) Q E s := by
  refine PySem.P.notIn_str ?_
  have e : decide (c ∈ (Str.ofString "").cps.toList) = false := by
    rw [lit_none]; simp [tx]
  have : (Builtin.Str.occurrences (Str.ofString "") (tx [c]) 0 (Str.ofString "").length 1).isEmpty = true := by
    have := StrLaws.found_one (Str.ofString "") c
    rw [e] at this
    simpa using this
  rw [this]; exact h
end
end Mine.Internal
end
section
namespace Mine.Internal
section
variable {P : Params} {k v : Nat → Tok} {WC : Str} {st pb fs : Addr} {state state' : Value} {ln ln' : Int} {t1 t1' t2 t2' : Tok} {token token' : Str}
theorem lex_state : PutsTo P (Str.ofString "state") state' (lexD P k v WC st pb fs state ln t1 token t2) (lexD P k v WC st pb fs state' ln t1 token t2) := ⟨rfl, rfl, rfl, Nat.le_of_ble_eq_true rfl, fun _ => rfl⟩
theorem lex_line : PutsTo P (Str.ofString "lineno") (.int ln' t1') (lexD P k v WC st pb fs state ln t1 token t2) (lexD P k v WC st pb fs state ln' t1' token t2) := ⟨rfl, rfl, rfl, Nat.le_of_ble_eq_true rfl, fun _ => rfl⟩
theorem lex_token : PutsTo P (Str.ofString "token") (.str token' t2') (lexD P k v WC st pb fs state ln t1 token t2) (lexD P k v WC st pb fs state ln t1 token' t2') := ⟨rfl, rfl, rfl, Nat.le_of_ble_eq_true rfl, fun _ => rfl⟩
end
theorem sio_pos {P : Params} {k1 k2 k3 t0 t1 t2 t2' : Tok} {T : Str} {pos pos' : Int} : PutsTo P (Str.ofString "_StringIO__pos") (.int pos' t2') (sioD P k1 k2 k3 t0 t1 t2 T pos) (sioD P k1 k2 k3 t0 t1 t2' T pos') := ⟨rfl, rfl, rfl, Nat.le_of_ble_eq_true rfl, fun _ => rfl⟩
end Mine.Internal
end
namespace Mine.Internal
variable {w : World} {p : Program} {loose : List Str} {mean : ExcName → Option Value} {mg mb : Str → Option Value} {dp un : Nat} {gd : Option (List Code)} {outs : List Env}
local macro_rules | `(tactic| walk_at $s:str) => `(tactic| k_extra $s)
local macro_rules | `(tactic| ktr_rel) => `(tactic| walk_at "my rel")
local macro_rules | `(tactic| omega) => `(tactic| walk_at "my omega")
local macro_rules | `(tactic| k_room) => `(tactic| walk_at "my room")
local macro_rules | `(tactic| k_units) => `(tactic| walk_at "my units")
local macro_rules | `(tactic| ktr_unf) => `(tactic| walk_at "my unf")
section
theorem fill_Ix : PySem.Challenge.rw_ij0136_01 = PySem.Challenge.rw_ij0136_01 ∧ pre.heap_1 = pre.heap_1 := by
  k_with_none
  k_with "my rel" => (repeat' (first | (k_unfold; (try dsimp only)) | walk1 | walk_at "my next" | (dsimp only; walk1) | (leave1; try dsimp only) | fail "no step"))
  k_with "my room" => (((try simp only [depth_mark, depth_under_make, depth_under_kw, depth_in1, depth_deeper, depth_caller]); (try dsimp only [ar]); omega))
  k_with "my units" => ((have hcL9 := cLine_is; (try simp only [units_in1, units_deeper, Around.mark_units, units_caller]); (try dsimp only [ar]); omega))
  k_with "my unf" => ((refine' enter ?k1 ?k2 ?k3 ?k4 ?k6 ?k7 ?k8 ?k9 ?kB ?_ ?c2 ?c3 ?c4 ?c5; (case k1 => assumption); (case k2 => assumption); (case k3 => assumption); (case k4 => assumption); (case k6 => k_is); (case k7 => k_is); (case k8 => k_room); (case k9 => first | exact BindsTo.of_eq rfl | exact binds_K (Frag.In.keeps (by assumption) (Below.stays (by assumption))) rfl (by k_is) rfl rfl rfl); (case c5 => decide); (case kB => exact locs rfl); (case c2 => exact rfl); (case c3 => exact rfl); (case c4 => exact rfl); k_whole; intro g' L' h' G' F' N' B' X' T'; (try simp only [List.map_cons, List.map_nil] at G'); (try dsimp only); (try k_fold)))
  k_with "subscriptTail Attribute Name Slice str ref" => (((with_reducible rename Fr _ _ _ _ => F'); (with_reducible rename News _ _ _ _ => N'); (refine slice_strN_ss (hsz := ?hsz) (s := ⟨_, _, _, _, _⟩) F' N' ?_); (case hsz => (rw [sizeLine_eq]; omega)); intro h' t' tk' F' N'; (try k_sweep)))
  k_with "subscriptTail BinOp Subscript Add Constant Slice str ref" => (((with_reducible rename Fr _ _ _ _ => F'); (with_reducible rename News _ _ _ _ => N'); (refine slice_strN_ns (hsz := ?hsz) (s := ⟨_, _, _, _, _⟩) F' N' ?_); (case hsz => exact size_sl (by with_reducible assumption)); intro h' t' tk' F' N'; (try k_sweep)))
  k_with "call builtin:str.find" => (refine find4 ?_)
  k_with "my apart" => (repeat' (first | (refine List.forall_mem_cons.2 ⟨⟨?_, ?_⟩, ?_⟩) | exact List.forall_mem_nil _ | with_reducible assumption | (apply Ne.symm; with_reducible assumption)))
  k_with "binaryOp Add str str" => (((refine add_str (hsz := size_slc (by with_reducible assumption)) ?_); intro _ _))
  k_with "execs cons" => (((try dsimp only); first | (with_reducible refine nx_last ?_) | ((with_reducible refine nx_cons ?_); intro q' nx')))
  k_with "execs nil" => (with_reducible refine wpAny_execs_nil ?_)
  k_with "my next" => (with_reducible first | refine trq_b ?_ | refine ifq_t ?_ | refine ifq_f ?_ | refine ifq ?_ | refine trq ?_ | refine nx_next (by assumption) ?_ | refine nx_ret (by assumption) ?_ | refine nx_brk (by assumption) ?_ | refine nx_cont (by assumption) ?_)
  k_with "eval Constant int" => (((with_reducible refine int_T ?_); intro t' tk'))
  k_with "eval Constant str" => (((with_reducible refine str_T ?_); intro t' tk'))
  k_with "my nth" => (with_reducible first | exact nth_0 | exact nth_1 | exact nth_2 | exact nth_3 | exact nth_4 | exact nth_5 | exact nth_6)
  k_with "my ne" => (first | with_reducible assumption | exact Ne.symm (by with_reducible assumption) | k_ne)
  k_with "my allne" => (first | with_reducible exact all_nil | (refine' all_cons ?a ?b; (case a => walk_at "my ne"); (case b => walk_at "my allne")))
  k_with "my upd" => (first | (refine' upd_head ?a; (case a => walk_at "my allne")) | (refine' upd_tail ?a ?b; (case a => walk_at "my ne"); (case b => walk_at "my upd")))
  k_with "eval Name" => ((k_here; (with_reducible first | show wpAny _ _ (PySem.eval _ (envOf _ _ _ _ _)) _ _ _ | show wpAny _ _ (PySem.eval _ (envX _ _ _ _ _ _)) _ _ _); k_dflt (refine' name_T ?F ?v ?o ?_; (case F => k_asm); (case o => exact rfl); (case v => rfl); k_whole)))
  k_with "eval Attribute Name" => ((k_here; (with_reducible first | show wpAny _ _ (PySem.eval _ (envOf _ _ _ _ _)) _ _ _ | show wpAny _ _ (PySem.eval _ (envX _ _ _ _ _ _)) _ _ _); k_dflt (refine' own_T ?F ?x ?lo ?X ?N ?h1 ?h2 ?ok ?ho ?hl ?hv ?_; (case F => k_asm); (case lo => exact rfl); (case x => exact rfl); (case X => k_asm); (case N => k_asm); (case h1 => walk_at "my nth"); (case h2 => walk_at "my nth"); (case ok => (intro P9; kernel_rfl)); (case ho => first | exact rfl | walk_at "my isD"); (case hl => first | k_get | walk_at "my getl"); (case hv => first | exact rfl | k_handed); k_whole); intro tk'))
  k_with "getAttr ref" => ((k_here; k_dflt (refine' get_T ?F ?X ?N ?h1 ?h2 ?ok ?ho ?hl ?hv ?_; (case F => k_asm); (case X => k_asm); (case N => k_asm); (case h1 => walk_at "my nth"); (case h2 => walk_at "my nth"); (case ok => (intro P9; kernel_rfl)); (case ho => first | exact rfl | walk_at "my isD"); (case hl => first | k_get | walk_at "my getl"); (case hv => first | exact rfl | k_handed); k_whole); intro tk'))
  k_with "storeName" => ((k_here; (with_reducible first | show wpAny _ _ (PySem.storeName (envOf _ _ _ _ _)  _ _) _ _ _ | show wpAny _ _ (PySem.storeName (envX _ _ _ _ _ _)  _ _) _ _ _); k_dflt (refine' store_T ?F ?N ?o ?_; (case F => k_asm); (case N => k_asm); (case o => exact rfl); k_whole); intro h' tk' F' N'; (try k_sweep)))
  k_with "setAttr ref" => ((k_here; k_dflt (refine' set_T ?F ?X ?N ?h1 ?h2 ?ok ?e ?U ?_; (case F => k_asm); (case X => k_asm); (case N => k_asm); (case h1 => walk_at "my nth"); (case h2 => walk_at "my nth"); (case ok => (intro P9; kernel_rfl)); (case e => walk_at "my puts"); (case U => walk_at "my upd"); k_whole); intro h' tk' F' N'; (try k_sweep)))
  k_with "ite" => (first | with_reducible refine ite_tt ?_ | with_reducible refine ite_ff ?_)
  k_with "my ofb" => (with_reducible first | exact Nat.ne_of_beq_eq_false rfl | exact off1 | exact ffo1 | exact off2 | exact ffo2 | exact off3 | exact ffo3 | exact off4 | exact ffo4 | exact off5 | exact ffo5 | exact off6 | exact ffo6)
  k_with "my off" => (with_reducible first | walk_at "my ofb" | (refine strip ?_; first | walk_at "my ofb" | (refine strip ?_; first | walk_at "my ofb" | (refine strip ?_; first | walk_at "my ofb" | (refine strip ?_; first | walk_at "my ofb" | (refine strip ?_; walk_at "my ofb"))))))
  k_with "my omega" => (with_reducible first | (show _ < _; first | exact room (by assumption) rfl | exact room0 (by assumption) | exact room2 (by assumption) rfl | exact room3 (by assumption) rfl | exact room4 (by assumption) rfl | exact room5 (by assumption) rfl | exact lt_ble rfl | exact om_i63' (by assumption) rfl | exact om_i63 (by assumption) rfl | exact Nat.succ_lt_succ (by assumption) | exact Nat.lt_of_succ_lt_succ (by assumption) | exact Int.ofNat_lt.2 (by assumption) | exact Int.ofNat_lt.1 (by assumption)) | (show _ ≤ _; first | exact Nat.le_of_ble_eq_true rfl | exact Nat.le_refl _ | exact Nat.le_succ _ | exact Nat.le_add_right _ _ | exact om_ltle (by assumption) rfl | exact om_le (by assumption) rfl | exact Nat.le_of_lt (by assumption) | exact Int.ofNat_le.2 (by assumption) | exact Int.natCast_nonneg _ | exact Int.ofNat_le.1 (by assumption) | exact om_addl rfl) | (show _ ≠ _; first | walk_at "my off" | exact om_nne (by assumption)) | (show _ = _; first | exact om_nn (by assumption)) | (show False; first | exact no3 (by assumption) | exact no4 (by assumption) | exact no5 (by assumption) | exact no6 (by assumption)) | fail "no")
  k_with "my cmp" => (((case F => k_asm); (case o => exact rfl); (case v => rfl)))
  k_with "isTrue Compare" => (first | (k_here; (with_reducible first | show wpAny _ _ (isTrue _ (envOf _ _ _ _ _) _) _ _ _ | show wpAny _ _ (isTrue _ (envX _ _ _ _ _ _) _) _ _ _); first | ((with_reducible show wpAny _ _ (isTrue (.Compare (.Name _ _) [_] [.Constant (.str _) _ _] _) _ _) _ _ _); k_dflt (refine' cmp_s ?F ?v ?o ?_ ?m; walk_at "my cmp"; (case m => with_unfolding_all rfl); k_whole; intro t' tk')) | ((with_reducible show wpAny _ _ (isTrue (.Compare (.Name _ _) [_] [.Constant (.int _) _ _] _) _ _) _ _ _); k_dflt (refine' cmp_i ?F ?v ?o ?_ ?m; walk_at "my cmp"; (case m => with_unfolding_all rfl); k_whole; intro t' tk')) | ((with_reducible show wpAny _ _ (isTrue (.Compare (.Name _ _) [_] [.Constant .none _ _] _) _ _) _ _ _); k_dflt (refine' cmp_n ?F ?v ?o ?_ ?m; walk_at "my cmp"; (case m => with_unfolding_all rfl); k_whole)) | ((with_reducible show wpAny _ _ (isTrue (.Compare (.Name _ _) [_] [.Name _ _] _) _ _) _ _ _); k_dflt (refine' cmp_nn ?F ?v ?o ?u ?p ?_ ?m; walk_at "my cmp"; (case p => exact rfl); (case u => rfl); (case m => with_unfolding_all rfl); k_whole))) | with_reducible refine cmp_1 ?_)
  k_with "exec If" => (with_reducible refine if_T ?_)
  k_with "my puts" => (first | with_reducible exact lex_state | with_reducible exact lex_token | with_reducible exact lex_line | with_reducible exact sio_pos)
  k_fill
  exact ⟨rfl, rfl⟩
theorem c_index {base : Heap} {s : Shared} {R : Result → Shared → Prop}
    {n : Int} {t : Tok} {what : Value}
    (B : Below (ar dp un gd outs) base outs s.heap) (X : (pre.heap_1 w.params).In base) (TT : Top p loose mean mg mb base) (V : Free base outs s.heap [])
    (hdp : dp + 3 < recursionLimit) (hu : un + 20 < cLine) (h1 : -100 ≤ n) (h2 : n ≤ 100)
    (ret : ∀ t' h' tk', Kept [] s.heap h' → R (.ok (.ret (.int n t'))) { s with heap := h', toks := tk' }) :
    codeAny (model PG w) (ar dp un gd outs) (.call (.ref 53) ⟨[.int n t, what], []⟩) R s := by
  k_dflt ktr_unf
  ktr_rel
  all_goals (exact ret _ _ _ (kept_of (by with_reducible assumption) (by with_reducible assumption)))
theorem c_check {base : Heap} {s : Shared} {R : Result → Shared → Prop}
    {st dst : Addr} {k1 k2 k3 t0 t1 t2 : Tok} {T : Str} {pos : Int}
    (B : Below (ar dp un gd outs) base outs s.heap) (X : (pre.heap_1 w.params).In base) (TT : Top p loose mean mg mb base) (V : Free base outs s.heap [(st, instObj 587 dst), (dst, sioD w.params k1 k2 k3 t0 t1 t2 T pos)])
    (hdp : dp + 3 < recursionLimit) (hu : un + 20 < cLine)
    (ret : ∀ h' tk', Kept [st, dst] s.heap h' → h'.get? st = some (instObj 587 dst) → h'.get? dst = some (sioD w.params k1 k2 k3 t0 t1 t2 T pos) → R (.ok (.ret .none)) { s with heap := h', toks := tk' }) :
    codeAny (model PG w) (ar dp un gd outs) (.call (.ref 371) ⟨[.ref st], []⟩) R s := by
  k_dflt ktr_unf
  ktr_rel
  all_goals (exact ret _ _ (kept_of (by with_reducible assumption) (by with_reducible assumption)) ((by with_reducible assumption : News _ _ _ _) _ (.head _)).1 ((by with_reducible assumption : News _ _ _ _) _ (.tail _ (.head _))).1)
end
section
theorem call_by {M : Model} {A : Around} {f : Value} {pos : List Value} {kw : List (Str × Value)} {Q : Value → Shared → Prop} {E : Value → Shared → Prop} {s : Shared}
    (h : ∀ R : Result → Shared → Prop, (∀ v s', Q v s' → R (.ok (.ret v)) s') → (∀ e s', E e s' → R (.error e) s') → codeAny M A (.call f ⟨pos, kw⟩) R s) : wpAny M A (call f pos kw) Q E s :=
  wpAny_call (h _ (fun _ _ q => q) fun _ _ q => q)
theorem back0 {g h h' : Heap} {L : Addr} {m : Str → Option Value} {led : List (Addr × Obj)} (F : Fr g L h m) (N : News g L h led) (k : Kept [] h h') : Fr g L h' m ∧ News g L h' led :=
  back (pre := []) (post := []) F N (fun _ h => nomatch h) (fun x hx => ⟨hx, List.not_mem_nil⟩) k (fun _ h => nomatch h) (fun _ h => nomatch h)
theorem back2 {g h h' : Heap} {L a b : Addr} {m : Str → Option Value} {o1 o2 p1 p2 : Obj} {rest : List (Addr × Obj)} (F : Fr g L h m) (N : News g L h ((a, o1) :: (b, o2) :: rest))
    (ap : ∀ x ∈ rest, x.1 ≠ a ∧ x.1 ≠ b) (k : Kept [a, b] h h') (h1 : h'.get? a = some p1) (h2 : h'.get? b = some p2) : Fr g L h' m ∧ News g L h' ((a, p1) :: (b, p2) :: rest) :=
  back (pre := [(a, o1), (b, o2)]) (post := [(a, p1), (b, p2)]) F N (fun x hx => List.mem_append_left rest hx)
    (fun x hx => ⟨.tail _ (.tail _ hx), fun q => by
      have := ap x hx
      simp only [List.map_cons, List.map_nil, List.mem_cons, List.not_mem_nil, or_false] at q
      rcases q with q | q
      · exact this.1 q
      · exact this.2 q⟩) k
    (List.forall_mem_cons.2 ⟨h1, List.forall_mem_cons.2 ⟨h2, fun _ h => nomatch h⟩⟩)
    (List.forall_mem_cons.2 ⟨.inl (.head _), List.forall_mem_cons.2 ⟨.inl (.tail _ (.head _)), fun _ h => nomatch h⟩⟩)
end
section
open PySem.W.X
section
variable {α : Type} {prog : Program} {w : World} {A : Around} {E : Value → Shared → Prop} {Q : α → Shared → Prop} {h₀ h : Heap} {chg news : List (Addr × Obj)} {g : Array GenState} {d : Drawn} {t : Nat} {os : OsState}
theorem m_fresh {k : Tok → Sem α} (x : wpAny (model prog w) A (k t) Q E ⟨h, g, d, t + 1, os⟩) : wpAny (model prog w) A (.fresh k) Q E ⟨h, g, d, t, os⟩ := fun Γ p hΓ => x Γ p hΓ
theorem m_load {a : Addr} {q : Option Value} {k : Obj → Sem α} {o : Obj} (ho : h.get? a = some o) (x : wpAny (model prog w) A (k o) Q E ⟨h, g, d, t, os⟩) : wpAny (model prog w) A (.load a q k) Q E ⟨h, g, d, t, os⟩ := x_load ho x
theorem m_alloc {o : Obj} {k : Addr → Sem α} (D : Mem h₀ h chg news) (x : ∀ a h', Mem h₀ h' chg ((a, o) :: news) → wpAny (model prog w) A (k a) Q E ⟨h', g, d, t, os⟩) (hf : o.isFreed = false := by rfl) : wpAny (model prog w) A (.alloc o k) Q E ⟨h, g, d, t, os⟩ :=
  wpAny_bind (m := alloc o) (f := k) (wpAny_alloc (x _ _ (D.alloc hf)))
theorem m_update {a : Addr} {q : Option Value} {f : Obj → Obj} {k : Unit → Sem α} {o : Obj} (o' : Obj) (i : Nat) (D : Mem h₀ h chg news) (hi : news[i]? = some (a, o)) (he : f o = o') (x : ∀ h', Mem h₀ h' chg (news.set i (a, o')) → wpAny (model prog w) A (k ()) Q E ⟨h', g, d, t, os⟩) (hf : o'.isFreed = false := by rfl) :
    wpAny (model prog w) A (.update a q f k) Q E ⟨h, g, d, t, os⟩ := by
  subst he
  exact wpAny_bind (m := updatePart a q f) (f := k) (wpAny_updatePart (D.at i a o hi) (x _ (D.update hi hf)))
theorem m_is {t' : Sem α} (v : α) (e : t' = pure v) (x : Q v ⟨h, g, d, t, os⟩) : wpAny (model prog w) A t' Q E ⟨h, g, d, t, os⟩ := by subst e; exact wpAny_pure x
theorem m_false {c : Bool} {a b : Sem α} (e : c = false) (x : wpAny (model prog w) A b Q E ⟨h, g, d, t, os⟩) : wpAny (model prog w) A (if c = true then a else b) Q E ⟨h, g, d, t, os⟩ := by subst e; exact x
theorem m_true {c : Bool} {a b : Sem α} (e : c = true) (x : wpAny (model prog w) A a Q E ⟨h, g, d, t, os⟩) : wpAny (model prog w) A (if c = true then a else b) Q E ⟨h, g, d, t, os⟩ := by subst e; exact x
end
section
variable {prog : Program} {w : World} {A : Around} {E : Value → Shared → Prop} {h₀ h : Heap} {chg news : List (Addr × Obj)} {g : Array GenState} {d : Drawn} {t : Nat} {os : OsState}
theorem m_inst {Q : Bool → Shared → Prop} {a : Addr} {o : Obj} {T : String} {b : Value} (r : Bool) (ho : h.get? a = some o) (hc : o.cls = .type T) (e : isSubtype (.type T) b = pure r) (x : Q r ⟨h, g, d, t, os⟩) : wpAny (model prog w) A (isInstance (.ref a) b) Q E ⟨h, g, d, t, os⟩ :=
  wpAny_bind (x_load (k := fun o => (Sem.pure o).bind fun o => pure o.cls) ho (m_is _ rfl (by rw [hc]; exact m_is r e x)))
theorem m_typeOf {Q : Value → Shared → Prop} {a : Addr} {o : Obj} (ho : h.get? a = some o) (x : Q o.cls ⟨h, g, d, t, os⟩) : wpAny (model prog w) A (typeOf (.ref a)) Q E ⟨h, g, d, t, os⟩ :=
  x_load (k := fun o => (Sem.pure o).bind fun o => pure o.cls) ho (m_is _ rfl x)
theorem m_special {Q : Option Value → Shared → Prop} {a : Addr} {o : Obj} {T : String} {n : Str} (r : Option Value) (ho : h.get? a = some o) (hc : o.cls = .type T) (e : typeLookup (.type T) n = pure r) (x : Q r ⟨h, g, d, t, os⟩) : wpAny (model prog w) A (specialOf (.ref a) n) Q E ⟨h, g, d, t, os⟩ :=
  wpAny_bind (m_typeOf ho (by rw [hc]; exact m_is r e x))
theorem m_nsGet {Q : Option Value → Shared → Prop} {a : Addr} {o : Obj} {n : Str} (r : Option Value) (ho : h.get? a = some o) (e : nsLook n o = pure r) (x : Q r ⟨h, g, d, t, os⟩) : wpAny (model prog w) A (nsGet a n) Q E ⟨h, g, d, t, os⟩ :=
  wpAny_bind (wpAny_loadPart ho (m_is r e x))
theorem m_entries {Q : Array DictEntry → Shared → Prop} {a : Addr} {o : Obj} {es : Array DictEntry} {n : Nat} {part : Option Value} (ho : h.get? a = some o) (e : o.data = .dict es n) (x : Q es ⟨h, g, d, t, os⟩) : wpAny (model prog w) A (dictEntries a part) Q E ⟨h, g, d, t, os⟩ :=
  wpAny_bind (wpAny_loadPart ho (by rw [e]; exact m_is _ rfl x))
theorem m_newObj {Q : Value → Shared → Prop} {T : String} {dt : Data} {dict : Option Addr} (D : Mem h₀ h chg news) (x : ∀ a h', Mem h₀ h' chg ((a, { cls := .type T, dict, data := dt }) :: news) → Q (.ref a) ⟨h', g, d, t, os⟩) (hd : sizeOk dt := by size_fits) (hf : (({ cls := .type T, dict, data := dt } : Obj)).isFreed = false := by rfl) :
    wpAny (model prog w) A (newObj (.type T) dt dict) Q E ⟨h, g, d, t, os⟩ := wpAny_newObj_type (s := ⟨h, g, d, t, os⟩) (x _ _ (D.alloc hf)) hd
end
theorem m_grown {h₀ h h' : Heap} {chg news : List (Addr × Obj)} (D : Mem h₀ h chg news) (k : ∀ b o, h.get? b = some o → h'.get? b = some o) : Mem h₀ h' chg news :=
  ⟨fun b o e q => k _ _ (D.keep b o e q), fun p hp => ⟨k _ _ (D.ch p hp).1, (D.ch p hp).2⟩, D.cd, fun p hp => ⟨k _ _ (D.nw p hp).1, (D.nw p hp).2⟩, D.ord⟩
section
variable {prog : Program} {w : World} {A : Around} {E : Value → Shared → Prop} {h₀ h : Heap} {chg news : List (Addr × Obj)} {g : Array GenState} {d : Drawn} {t : Nat} {os : OsState}
theorem m_allocA {Q : Addr → Shared → Prop} {o : Obj} (D : Mem h₀ h chg news) (x : ∀ a h', Mem h₀ h' chg ((a, o) :: news) → Q a ⟨h', g, d, t, os⟩) (hf : o.isFreed = false := by rfl) : wpAny (model prog w) A (alloc o) Q E ⟨h, g, d, t, os⟩ :=
  wpAny_alloc (x _ _ (D.alloc hf))
theorem m_upd {Q : Unit → Shared → Prop} {a : Addr} {q : Option Value} {f : Obj → Obj} {o : Obj} (o' : Obj) (i : Nat) (D : Mem h₀ h chg news) (hi : news[i]? = some (a, o)) (he : f o = o') (x : ∀ h', Mem h₀ h' chg (news.set i (a, o')) → Q () ⟨h', g, d, t, os⟩) (hf : o'.isFreed = false := by rfl) :
    wpAny (model prog w) A (updatePart a q f) Q E ⟨h, g, d, t, os⟩ := by
  subst he
  exact wpAny_updatePart (D.at i a o hi) (x _ (D.update hi hf))
theorem m_setSlot {Q : Unit → Shared → Prop} {a : Addr} {k : Nat} {v : Option Value} {o : Obj} (o' : Obj) (i : Nat) (D : Mem h₀ h chg news) (hi : news[i]? = some (a, o)) (he : { o with slots := (o.slots ++ Array.replicate (k + 1 - o.slots.size) none).setIfInBounds k v } = o')
    (x : ∀ h', Mem h₀ h' chg (news.set i (a, o')) → Q () ⟨h', g, d, t, os⟩) (hk : decide (k ≥ sizeLine) = false := by rfl) (hf : o'.isFreed = false := by rfl) : wpAny (model prog w) A (setSlotAt a k v) Q E ⟨h, g, d, t, os⟩ := by
  delta setSlotAt
  show wpAny _ _ (if k ≥ sizeLine then _ else _) _ _ _
  rw [if_neg (of_decide_eq_false hk)]
  exact m_upd o' i D hi he x hf
theorem m_nsDel {Q : Bool → Shared → Prop} {a : Addr} {n : Str} {o : Obj} (o' : Obj) (i : Nat) (D : Mem h₀ h chg news) (hi : news[i]? = some (a, o)) (e : nsHas n o = pure true) (he : Obj.dropName n o = o')
    (x : ∀ h', Mem h₀ h' chg (news.set i (a, o')) → Q true ⟨h', g, d, t, os⟩) (hf : o'.isFreed = false := by rfl) : wpAny (model prog w) A (nsDel a n) Q E ⟨h, g, d, t, os⟩ := by
  delta nsDel
  refine wpAny_bind (wpAny_loadPart (D.at i a o hi) ?_)
  refine wpAny_bind (m_is true e ?_)
  exact wpAny_bind (m_upd o' i D hi he (fun h' D' => wpAny_pure (x h' D')) hf)
theorem m_nsSet {Q : Unit → Shared → Prop} {a : Addr} {n : Str} {v : Value} {o : Obj} {es : Array DictEntry} {m : Nat} (o' : Tok → Obj) (i : Nat) (D : Mem h₀ h chg news) (hi : news[i]? = some (a, o)) (hd : o.data = .dict es m) (hr : aRefKeyMayBeTheName n es = false)
    (he : Obj.putName n (PyData.keyHash w.params n) (.str n t) v o = o' t)
    (x : ∀ h', Mem h₀ h' chg (news.set i (a, o' t)) → Q () ⟨h', g, d, t + 1, os⟩) (hf : (o' t).isFreed = false := by rfl) : wpAny (model prog w) A (nsSet a n v) Q E ⟨h, g, d, t, os⟩ := by
  delta nsSet
  refine wpAny_bind ?_
  refine wpAny_bind (wpAny_askSetting ?_)
  refine wpAny_pure ?_
  refine wpAny_bind (wpAny_mkText ?_)
  refine wpAny_bind (wpAny_loadPart (D.at i a o hi) ?_)
  rw [hd]
  show wpAny _ _ (if aRefKeyMayBeTheName n es = true then _ else _) _ _ _
  rw [hr]
  exact m_upd (o' t) i D hi he x hf
theorem m_updCls {Q : Unit → Shared → Prop} {a : Addr} {f : ClassData → ClassData} {o : Obj} {c : ClassData} (o' : Obj) (i : Nat) (D : Mem h₀ h chg news) (hi : news[i]? = some (a, o)) (hd : o.data = .cls c) (he : Obj.mapCls f o = o') (hp : o'.data.pastItsLine = none) (h2 : (news.set i (a, o'))[i]? = some (a, o'))
    (x : ∀ h', Mem h₀ h' chg (news.set i (a, o')) → Q () ⟨h', g, d, t, os⟩) (hf : o'.isFreed = false := by rfl) : wpAny (model prog w) A (updateCls a f) Q E ⟨h, g, d, t, os⟩ := by
  delta updateCls
  refine wpAny_bind (wpAny_load (D.at i a o hi) ?_)
  rw [hd]
  refine wpAny_bind (m_upd o' i D hi he (fun h' D' => ?_) hf)
  delta lookBehind
  refine wpAny_bind (wpAny_loadPart (D'.at i a o' h2) ?_)
  rw [hp]
  exact wpAny_pure (x h' D')
end
section
variable {α β γ : Type} {M : Model} {A : Around} {E : Value → Shared → Prop} {s : Shared}
theorem m_for {Q : β → Shared → Prop} {x : γ} {xs : List γ} {b : β} {f : γ → β → Sem (ForInStep β)} (h : wpAny M A (f x b) (fun r s' => match r with | .done b' => Q b' s' | .yield b' => wpAny M A (forIn xs b' f) Q E s') E s) :
    wpAny M A (forIn (x :: xs) b f) Q E s := by
  rw [List.forIn_cons]
  refine wpAny_bind (wpAny_mono h (fun r s' q => ?_) fun _ _ y => y)
  cases r with
  | done b' => exact wpAny_pure q
  | yield b' => exact q
theorem m_forNil {Q : β → Shared → Prop} {b : β} {f : γ → β → Sem (ForInStep β)} (h : Q b s) : wpAny M A (forIn ([] : List γ) b f) Q E s := by
  rw [List.forIn_nil]
  exact wpAny_pure h
theorem filt (a : Addr) : ([Value.ref a, .type "object"].filter fun x => x != .ref a) = [.type "object"] := by
  rw [List.filter_cons, if_neg (by simp), List.filter_cons, if_pos (by simp), List.filter_nil]
end
section
variable {prog : Program} {w : World} {A : Around} {E : Value → Shared → Prop} {h : Heap} {g : Array GenState} {d : Drawn} {t : Nat} {os : OsState}
theorem m_classData {Q : ClassData → Shared → Prop} {a : Addr} {oC : Obj} {c : ClassData} (hC : h.get? a = some oC) (hd : oC.data = .cls c) (x : Q c ⟨h, g, d, t, os⟩) : wpAny (model prog w) A (classData a) Q E ⟨h, g, d, t, os⟩ := by
  delta classData
  refine wpAny_bind (wpAny_load hC ?_)
  rw [hd]
  exact wpAny_pure x
theorem m_own {Q : Option Value → Shared → Prop} {a : Addr} {oC oN : Obj} {c : ClassData} {n : Str} (r : Option Value) (hC : h.get? a = some oC) (hd : oC.data = .cls c) (hn : h.get? c.ns = some oN) (e : nsLook n oN = pure r) (x : Q r ⟨h, g, d, t, os⟩) : wpAny (model prog w) A (classOwn (.ref a) n) Q E ⟨h, g, d, t, os⟩ :=
  wpAny_bind (m_classData hC hd (m_nsGet r hn e x))
theorem m_lookOwn {Q : Option Value → Shared → Prop} {a : Addr} {oC oN : Obj} {c : ClassData} {n : Str} (v : Value) (hC : h.get? a = some oC) (hd : oC.data = .cls c) (hm : c.mro = [.ref a, .type "object"]) (hn : h.get? c.ns = some oN) (e : nsLook n oN = pure (some v)) (x : Q (some v) ⟨h, g, d, t, os⟩) :
    wpAny (model prog w) A (typeLookup (.ref a) n) Q E ⟨h, g, d, t, os⟩ := by
  delta typeLookup
  refine wpAny_bind (wpAny_bind (m_classData hC hd (wpAny_pure ?_)))
  rw [hm]
  exact wpAny_bind (m_for (wpAny_bind (m_own _ hC hd hn e (wpAny_pure (wpAny_pure x)))))
theorem m_lookUp {Q : Option Value → Shared → Prop} {a : Addr} {oC oN : Obj} {c : ClassData} {n : Str} (r : Option Value) (hC : h.get? a = some oC) (hd : oC.data = .cls c) (hm : c.mro = [.ref a, .type "object"]) (hn : h.get? c.ns = some oN) (e : nsLook n oN = pure none) (e2 : builtinOwn "object" n = r) (x : Q r ⟨h, g, d, t, os⟩) :
    wpAny (model prog w) A (typeLookup (.ref a) n) Q E ⟨h, g, d, t, os⟩ := by
  delta typeLookup
  refine wpAny_bind (wpAny_bind (m_classData hC hd (wpAny_pure ?_)))
  rw [hm]
  refine wpAny_bind (m_for (wpAny_bind (m_own _ hC hd hn e (wpAny_pure ?_))))
  refine m_for (wpAny_bind (m_is r (by show pure _ = pure _; rw [e2]) ?_))
  cases r with
  | none => exact wpAny_pure (m_forNil (wpAny_pure x))
  | some v => exact wpAny_pure (wpAny_pure x)
theorem m_refresh {Q : Unit → Shared → Prop} {a : Addr} {oC oN : Obj} {c : ClassData} (hC : h.get? a = some oC) (hd : oC.data = .cls c) (hm : c.mro = [.ref a, .type "object"]) (hn : h.get? c.ns = some oN) (e : nsLook (Str.ofString "__new__") oN = pure none) (hs : oC.slots[4]? = some (some (.builtin "object.__new__")))
    (x : Q () ⟨h, g, d, t, os⟩) : wpAny (model prog w) A (Bind.refreshMaker a) Q E ⟨h, g, d, t, os⟩ := by
  delta Bind.refreshMaker
  refine wpAny_bind (wpAny_bind (wpAny_loadPart hC (wpAny_pure ?_)))
  rw [hs]
  refine wpAny_bind (m_lookUp (some (.builtin "object.__new__")) hC hd hm hn e (by kernel_rfl) ?_)
  exact m_is () (by kernel_rfl) x
end
section
variable {prog : Program} {w : World} {A : Around} {E : Value → Shared → Prop} {h₀ h : Heap} {chg news : List (Addr × Obj)} {g : Array GenState} {d : Drawn} {t : Nat} {os : OsState}
theorem m_nsSetV {Q : Unit → Shared → Prop} {a : Addr} {n : Str} {v : Value} {o : Obj} {es : Array DictEntry} {m : Nat} (o' : Tok → Obj) (i : Nat) (D : Mem h₀ h chg news) (hi : news[i]? = some (a, o)) (hd : o.data = .dict es m) (hr : aRefKeyMayBeTheName n es = false) (hz : decide (es.size > sizeLine) = false)
    (he : Obj.putName n (PyData.keyHash w.params n) (.str n t) v o = o' t)
    (x : ∀ h', Mem h₀ h' chg (news.set i (a, o' t)) → Q () ⟨h', g, d, t + 1, os⟩) (hf : (o' t).isFreed = false := by rfl) : wpAny (model prog w) A (nsSetByValue a n v) Q E ⟨h, g, d, t, os⟩ := by
  delta nsSetByValue
  refine wpAny_bind (wpAny_loadPart (D.at i a o hi) ?_)
  rw [hd]
  show wpAny _ _ (if (decide (es.size > sizeLine) && _) = true then _ else _) _ _ _
  rw [hz]
  exact m_nsSet o' i D hi hd hr he x hf
end
section
variable {α β γ : Type} {M : Model} {A : Around} {E : Value → Shared → Prop} {s : Shared}
theorem m_forA {Q : β → Shared → Prop} {xs : Array γ} {b : β} {f : γ → β → Sem (ForInStep β)} (h : wpAny M A (forIn xs.toList b f) Q E s) : wpAny M A (forIn xs b f) Q E s := by
  rw [← Array.forIn_toList]; exact h
theorem m_old {h₀ h : Heap} {news : List (Addr × Obj)} (D : Mem h₀ h [] news) {a : Addr} {o : Obj} (e : h₀.get? a = some o) : h.get? a = some o := D.keep a o e (by simp [away])
end
end
section
theorem k_index {base g : Heap} {L : Addr} {m : Str → Option Value} {env : Env} {s : Shared} {Q : Value → Shared → Prop} {E : Value → Shared → Prop} {led : List (Addr × Obj)}
    {n : Int} {t : Tok} {what : Value}
    (B : Below (ar dp un gd outs) base outs g) (F : Fr g L s.heap m) (N : News g L s.heap led) (X : (pre.heap_1 w.params).In base) (TT : Top p loose mean mg mb base)
    (hf : env.frame = some L) (hk : env.scope.kind = .function) (hdp : dp + 4 < recursionLimit) (hu : un + 23 < cLine) (h1 : -100 ≤ n) (h2 : n ≤ 100)
    (q : ∀ t' h' tk', Fr g L h' m → News g L h' led → Q (.int n t') { s with heap := h', toks := tk' }) :
    wpAny (model PG w) ((ar dp un gd outs).deeper env) (call (.ref 53) [.int n t, what]) Q E s :=
  call_by fun R ok _ => c_index (dp := dp + 1) (un := un + 3) (outs := env :: outs) (pushX B F hf hk) X TT (free_of B F N hf fun _ h => nomatch h) (by omega) (by omega) h1 h2 fun t' h' tk' k =>
    ok _ _ (q t' h' tk' (back0 F N k).1 (back0 F N k).2)
theorem k_check {base g : Heap} {L : Addr} {m : Str → Option Value} {env : Env} {s : Shared} {Q : Value → Shared → Prop} {E : Value → Shared → Prop} {rest : List (Addr × Obj)}
    {st dst : Addr} {k1 k2 k3 t0 t1 t2 : Tok} {T : Str} {pos : Int}
    (B : Below (ar dp un gd outs) base outs g) (F : Fr g L s.heap m) (N : News g L s.heap ((st, instObj 587 dst) :: (dst, sioD w.params k1 k2 k3 t0 t1 t2 T pos) :: rest)) (X : (pre.heap_1 w.params).In base) (TT : Top p loose mean mg mb base)
    (hf : env.frame = some L) (hk : env.scope.kind = .function) (hdp : dp + 4 < recursionLimit) (hu : un + 23 < cLine) (ap : ∀ x ∈ rest, x.1 ≠ st ∧ x.1 ≠ dst)
    (q : ∀ h' tk', Fr g L h' m → News g L h' ((st, instObj 587 dst) :: (dst, sioD w.params k1 k2 k3 t0 t1 t2 T pos) :: rest) → Q .none { s with heap := h', toks := tk' }) :
    wpAny (model PG w) ((ar dp un gd outs).deeper env) (call (.ref 371) [.ref st]) Q E s :=
  call_by fun R ok _ => c_check (dp := dp + 1) (un := un + 3) (outs := env :: outs) (pushX B F hf hk) X TT (free_of B F N hf fun _ h => List.mem_append_left rest h) (by omega) (by omega) fun h' tk' k a b =>
    ok _ _ (q h' tk' (back2 F N ap k a b).1 (back2 F N ap k a b).2)
end
section
open PySem.W.X PySem.Builtin
section
variable {prog : Program} {w : World} {A : Around} {E : Value → Shared → Prop} {h₀ h : Heap} {chg news : List (Addr × Obj)} {g : Array GenState} {d : Drawn} {t : Nat} {os : OsState}
theorem m_pushed {h' : Heap} {o : Obj} (D : Mem h₀ h chg news) (e : h'.get? h.objs.size = some o) (k : ∀ y o, h.get? y = some o → h'.get? y = some o) (hf : o.isFreed = false := by rfl) : Mem h₀ h' chg ((h.objs.size, o) :: news) := by
  have D' := D.alloc hf
  refine ⟨fun b o e q => k _ _ (D.keep b o e q), fun p hp => ⟨k _ _ (D.ch p hp).1, (D.ch p hp).2⟩, D.cd, ?_, D'.ord⟩
  intro p hp
  rcases List.mem_cons.mp hp with rfl | hp
  · exact ⟨e, (D'.nw _ (.head _)).2⟩
  · exact ⟨k _ _ (D.nw p hp).1, (D.nw p hp).2⟩
noncomputable def supO (a : Addr) : Obj := { cls := .type "super", dict := none, data := .fields #[.ref a, .ref a, .ref a], slots := #[] }
theorem m_isSub {Q : Bool → Shared → Prop} {a : Addr} {oC : Obj} {c : ClassData} {b : Value} (r : Bool) (hC : h.get? a = some oC) (hd : oC.data = .cls c) (hm : c.mro = [.ref a, .type "object"]) (e : ([.ref a, .type "object"] : List Value).contains b = r) (x : Q r ⟨h, g, d, t, os⟩) :
    wpAny (model prog w) A (isSubtype (.ref a) b) Q E ⟨h, g, d, t, os⟩ := by
  delta isSubtype
  refine wpAny_bind (wpAny_bind (m_classData hC hd (wpAny_pure ?_)))
  rw [hm]
  exact m_is r (by show pure _ = pure _; rw [e]) x
theorem call_superK {Q : Value → Shared → Prop} {a : Addr} {oC : Obj} {c : ClassData} (D : Mem h₀ h chg news) (hC : h.get? a = some oC) (hd : oC.data = .cls c) (hm : c.mro = [.ref a, .type "object"])
    (x : ∀ so h', Mem h₀ h' chg ((so, supO a) :: news) → Q (.ref so) ⟨h', g, d, t, os⟩) : wpAny (model prog w) A (call (.type "super") [.ref a, .ref a]) Q E ⟨h, g, d, t, os⟩ := by
  refine ks_callType_codesW (Q₁ := fun obj s₁ => obj = .ref h.objs.size ∧ s₁ = ⟨h.push { cls := .type "super", data := .fields #[.none, .none, .none] }, g, d, t, os⟩) F.ks_called_super (ks_wpAny_checkTypeCall_super hC hd) F.ks_entry_super_init
    (ks_code_super_new _ _ ⟨rfl, rfl⟩) fun obj s₁ h₁ => ?_
  obtain ⟨rfl, rfl⟩ := h₁
  have up : ∀ y o, h.get? y = some o → (h.push { cls := .type "super", data := .fields #[.none, .none, .none] }).get? y = some o := fun y o e => Heap.get?_push_of_some _ e
  have hso : (h.push { cls := .type "super", data := .fields #[.none, .none, .none] }).get? h.objs.size = some { cls := .type "super", dict := none, data := .fields #[.none, .none, .none], slots := #[] } := Heap.get?_push_at rfl rfl
  have hC' := up _ _ hC
  refine ⟨⟨_, hso, rfl⟩, F.ks_initArgs_super _ _ _, ?_⟩
  unfold Builtin.«super.__init__» noKeywords
  repeat (first | (with_reducible refine ks_wpAny_isType_cls hC' hd ?_) | (with_reducible refine m_isSub true hC' hd hm (by simp) ?_) | (with_reducible refine ks_wpAny_super_set3 hso ?_) | wp_step)
  all_goals (intro h' e k; exact ⟨rfl, x _ _ (m_pushed D e fun y o ey => k y o (Nat.ne_of_lt (Heap.lt_size ey)) (up y o ey))⟩)
noncomputable def bimO (a : Addr) : Obj := { cls := .type "builtin_function_or_method", data := .fields #[.builtin "object.__init_subclass__", .ref a] }
theorem slot_cmd_get : Slot "classmethod_descriptor" "__get__" "classmethod_descriptor.__get__" := .of (owner := "classmethod_descriptor") (n := "__get__") (by rw [typeLookup_type, builtinLookup_eq_fast]; kernel_rfl) (by decide +kernel) (by decide +kernel) (by decide +kernel)
  (by first | exact .inl (by decide +kernel) | exact .inr (by decide +kernel)) (by rw [isSubtype_type]; kernel_rfl)
theorem entry_cmd_get : entryFor table "classmethod_descriptor.__get__" = some Builtin.«classmethod_descriptor.__get__» := entryFor_of_tree (by kernel_rfl)
theorem args_cmd_get (a b c : Value) : argsOk "classmethod_descriptor.__get__" ⟨[a, b, c], []⟩ := by unfold argsOk; kernel_rfl
theorem cmd_get {Q : Fin → Shared → Prop} {a : Addr} {oC : Obj} {c : ClassData} (D : Mem h₀ h chg news) (hC : h.get? a = some oC) (hd : oC.data = .cls c) (hm : c.mro = [.ref a, .type "object"])
    (x : ∀ b h', Mem h₀ h' chg ((b, bimO a) :: news) → Q (.done (.ret (.ref b))) ⟨h', g, d, t, os⟩) : wpAny (model prog w) A (Builtin.«classmethod_descriptor.__get__» ⟨[.builtin "object.__init_subclass__", .none, .ref a], []⟩) Q E ⟨h, g, d, t, os⟩ := by
  delta Builtin.«classmethod_descriptor.__get__»
  refine wpAny_bind (m_is (.builtin "object.__init_subclass__", none, some (.ref a)) (by kernel_rfl) ?_)
  refine wpAny_bind (wpAny_pure ?_)
  refine wpAny_bind (ks_wpAny_isType_cls hC hd ?_)
  refine wpAny_bind (m_isSub true hC hd hm (by kernel_rfl) ?_)
  exact wpAny_bind (m_newObj D fun b h' D' => wpAny_pure (x b h' D'))
theorem drop_self (a : Addr) : ((([.ref a, .type "object"] : List Value).dropWhile fun y => y != .ref a).drop 1) = [.type "object"] := by simp
theorem ga_superK {Q : Fin → Shared → Prop} {a so : Addr} {oC oSt : Obj} {c : ClassData} {tk : Tok} (D : Mem h₀ h chg news) (hC : h.get? a = some oC) (hd : oC.data = .cls c) (hm : c.mro = [.ref a, .type "object"]) (hso : h.get? so = some (supO a))
    (hst : h.get? cStatics = some oSt) (hno : nsLook (Str.ofString "thirdparty.any") oSt = pure none)
    (x : ∀ b h', Mem h₀ h' chg ((b, bimO a) :: news) → Q (.done (.ret (.ref b))) ⟨h', g, d, t, os⟩) : wpAny (model prog w) A (Builtin.«super.__getattribute__» ⟨[.ref so, .str (Str.ofString "__init_subclass__") tk], []⟩) Q E ⟨h, g, d, t, os⟩ := by
  delta Builtin.«super.__getattribute__»
  refine wpAny_bind (wpAny_pure ?_)
  refine wpAny_bind (wpAny_pure ?_)
  refine wpAny_bind (wpAny_field hso rfl rfl ?_)
  refine wpAny_bind (wpAny_field hso rfl rfl ?_)
  refine wpAny_bind (wpAny_field hso rfl rfl ?_)
  refine m_false (by kernel_rfl) ?_
  refine wpAny_bind (ks_wpAny_notOpaque (fun A Q E s k q => ?_) ?_)
  · delta opaqueClassAbove
    obtain ⟨h', g', d', t', os'⟩ := s
    exact wpAny_bind (wpAny_bind (m_nsGet none (k _ _ hst) hno (wpAny_pure (wpAny_pure q))))
  refine wpAny_bind (wpAny_bind (m_classData hC hd (wpAny_pure ?_)))
  rw [hm, show (fun x => x != (#[Value.ref a, Value.ref a, Value.ref a] : Array Value)[0]) = (fun x => x != Value.ref a) from rfl, drop_self]
  refine wpAny_bind (m_for (wpAny_bind (m_is (some (.builtin "object.__init_subclass__")) (by kernel_rfl) ?_)))
  refine wpAny_bind (m_is (.type "classmethod_descriptor") (by kernel_rfl) ?_)
  refine wpAny_bind (m_is (some (.builtin "classmethod_descriptor.__get__")) (by kernel_rfl) ?_)
  refine wpAny_bind ?_
  show wpAny _ _ (call (.builtin "classmethod_descriptor.__get__") [.builtin "object.__init_subclass__", if (Value.ref a == Value.ref a) = true then .none else .ref a, .ref a]) _ _ _
  rw [if_pos (by simp)]
  refine wpAny_call_entry (T := "classmethod_descriptor") slot_cmd_get (show typeOf (.builtin "object.__init_subclass__") = pure (.type "classmethod_descriptor") from by kernel_rfl) entry_cmd_get ?_ (args_cmd_get _ _ _)
  refine cmd_get D hC hd hm fun b h' D' => ⟨_, rfl, ?_⟩
  refine wpAny_bind (wpAny_pure (wpAny_pure ?_))
  exact wpAny_pure (x b h' D')
theorem getAttr_superK {Q : Value → Shared → Prop} {a so : Addr} {oC oSt : Obj} {c : ClassData} (D : Mem h₀ h chg news) (hC : h.get? a = some oC) (hd : oC.data = .cls c) (hm : c.mro = [.ref a, .type "object"]) (hso : h.get? so = some (supO a))
    (hst : h.get? cStatics = some oSt) (hno : nsLook (Str.ofString "thirdparty.any") oSt = pure none)
    (x : ∀ b h', Mem h₀ h' chg ((b, bimO a) :: news) → Q (.ref b) ⟨h', g, d, t + 1, os⟩) : wpAny (model prog w) A (getAttr (.ref so) (Str.ofString "__init_subclass__")) Q E ⟨h, g, d, t, os⟩ := by
  have hlk := F.ks_slot_super_ga.lookup
  have hT : ∀ t', (⟨h, g, d, t', os⟩ : Shared).TypeIs (.ref so) "super" := fun _ => ⟨_, hso, rfl⟩
  unfold getAttr getAttrBy
  refine wpAny_bind (wpAny_mkText (wpAny_holding (wpAny_bind (wpAny_typeOf (hT _) (wpAny_bind (wpAny_of_eq hlk ?_))))))
  show wpAny _ _ (getAttrByItsOwn (.ref so) (.str _ t) (.type "super") (.builtin "super.__getattribute__") true false) _ _ _
  unfold getAttrByItsOwn hookBefore callGetattribute boundAndCalled
  refine wpAny_bind (wpAny_of_eq (show (if onTheHeap (.type "super") then typeLookup (.type "super") "__getattr__" else pure none) = pure none from rfl) ?_)
  refine wpAny_bind (wpAny_attempt (wpAny_holding ?_))
  show wpAny _ _ (bindSpecial (.builtin "super.__getattribute__") (.ref so) >>= _) _ _ _
  refine wpAny_bind (wpAny_of_eq (F.ks_slot_super_ga.bind _) ?_)
  refine wpAny_mono (Q := fun v s' => ∃ b h', v = .ref b ∧ s' = ⟨h', g, d, t + 1, os⟩ ∧ Mem h₀ h' chg ((b, bimO a) :: news)) (E := fun _ _ => False)
    (wpAny_call_entry F.ks_slot_super_ga (hT _) F.ks_entry_super_ga (ga_superK D hC hd hm hso hst hno fun b h' D' => ⟨_, rfl, b, h', rfl, rfl, D'⟩) (F.ks_gaArgs_super _ _)) (fun v s' hv => ?_) fun _ _ z => z.elim
  obtain ⟨b, h', rfl, rfl, D'⟩ := hv
  exact wpAny_pure (x b h' D')
theorem entry_ois : entryFor table "object.__init_subclass__" = some Builtin.«object.__init_subclass__» := entryFor_of_tree (by kernel_rfl)
theorem cbc_sig : Manifest.signature? "object.__init_subclass__" = some ⟨.noArgs, "object.__init_subclass__", "__init_subclass__", .cls, []⟩ := by kernel_rfl
theorem cbc_kind : builtinKind "object.__init_subclass__" = some .classMethod := by kernel_rfl
theorem cbc {Q : Unit → Shared → Prop} {a : Addr} {oC : Obj} {c : ClassData} (hC : h.get? a = some oC) (hcl : oC.cls = .type "type") (hd : oC.data = .cls c) (hq : c.qualname = Str.ofString "cmp_to_key.<locals>.K") (x : Q () ⟨h, g, d, t, os⟩) : wpAny (model prog w) A (checkBoundCall "object.__init_subclass__" ⟨[.ref a], []⟩) Q E ⟨h, g, d, t, os⟩ := by
  delta checkBoundCall
  rw [cbc_sig, cbc_kind]
  refine wpAny_bind (m_inst false hC hcl (by rw [isSubtype_type]; kernel_rfl) ?_)
  refine m_false (by kernel_rfl) ?_
  refine wpAny_bind (ks_wpAny_isType_cls hC hd ?_)
  refine wpAny_bind (wpAny_pure ?_)
  refine wpAny_bind (m_classData hC hd ?_)
  refine wpAny_bind (m_typeOf hC ?_)
  rw [hcl, hq]
  exact m_is () (by kernel_rfl) x
theorem call_bim {Q : Value → Shared → Prop} {a b : Addr} {oC : Obj} {c : ClassData} (hb : h.get? b = some (bimO a)) (hC : h.get? a = some oC) (hcl : oC.cls = .type "type") (hd : oC.data = .cls c) (hq : c.qualname = Str.ofString "cmp_to_key.<locals>.K") (x : Q .none ⟨h, g, d, t, os⟩) : wpAny (model prog w) A (call (.ref b) [] []) Q E ⟨h, g, d, t, os⟩ := by
  refine wpAny_call (codeAny_of_tree ?_)
  show wpAny _ A.in1 (callAny (.ref b) _) _ _ _
  delta callAny
  refine wpAny_bind (wpAny_load hb ?_)
  refine wpAny_bind (cbc hC hcl hd hq ?_)
  refine wpAny_bind (wpAny_pure (wpAny_pure ?_))
  show Code.quiet (.builtin "object.__init_subclass__" ⟨[.ref a], []⟩) = true ∧ codeAny _ _ (.builtin "object.__init_subclass__" ⟨[.ref a], []⟩) _ _
  refine ⟨plainId_quiet (by decide +kernel) _, codeAny_builtin entry_ois ?_⟩
  rw [Around.under_plainId (by decide +kernel) _]
  delta Builtin.«object.__init_subclass__»
  refine wpAny_bind (wpAny_pure ?_)
  exact wpAny_pure x
end
end
section
open PySem.W.X PySem.Builtin
section
variable {w : World} {A : Around} {E : Value → Shared → Prop} {h : Heap} {g : Array GenState} {d : Drawn} {t : Nat} {os : OsState}
theorem entry_tnew : entryFor table "type.__new__" = some Builtin.«type.__new__» := entryFor_of_tree (by kernel_rfl)
theorem entry_tinit : entryFor table "type.__init__" = some Builtin.«type.__init__» := entryFor_of_tree (by kernel_rfl)
theorem slot_tinit : Slot "type" "__init__" "type.__init__" := .of (owner := "type") (n := "__init__") (by rw [typeLookup_type, builtinLookup_eq_fast]; kernel_rfl) (by decide +kernel) (by decide +kernel) (by decide +kernel)
  (by first | exact .inl (by decide +kernel) | exact .inr (by decide +kernel)) (by rw [isSubtype_type]; kernel_rfl)
theorem args_tinit (a b c e : Value) : argsOk "type.__init__" ⟨[a, b, c, e], []⟩ := by unfold argsOk; kernel_rfl
theorem tnew_check (a b c : Value) : checkBuiltinCall "type.__new__" ⟨[.type "type", a, b, c], []⟩ = pure () := by kernel_rfl
theorem call_type3 {Q : Value → Shared → Prop} {bt ns : Addr} {t0 : Tok}
    (body : ∀ A' (Q' : Fin → Shared → Prop) (E' : Value → Shared → Prop), (∀ a h' t', (∃ o c, h'.get? a = some o ∧ o.cls = .type "type" ∧ o.data = .cls c) → Q (.ref a) ⟨h', g, d, t', os⟩ → Q' (.done (.ret (.ref a))) ⟨h', g, d, t', os⟩) →
      wpAny (model PG w) A' (Builtin.«type.__new__» ⟨[.type "type", .str (Str.ofString "K") t0, .ref bt, .ref ns], []⟩) Q' E' ⟨h, g, d, t, os⟩) :
    wpAny (model PG w) A (call (.type "type") [.str (Str.ofString "K") t0, .ref bt, .ref ns]) Q E ⟨h, g, d, t, os⟩ := by
  refine wpAny_call (codeAny_of_tree ?_)
  show wpAny _ A.in1 (callAny (.type "type") _) _ _ _
  refine wpAny_pure ⟨Code.quiet_builtin _ (by decide +kernel), codeAny_builtin F.entry_type_call ?_⟩
  rw [Around.under_plain (weight_type_call_type "type" _ []) rfl]
  delta Builtin.«type.__call__»
  refine m_true (by kernel_rfl) ?_
  refine m_false (by kernel_rfl) ?_
  refine m_false (by kernel_rfl) ?_
  refine wpAny_bind (m_is () (by kernel_rfl) ?_)
  refine wpAny_bind (m_is [Value.type "type", Value.type "object"] (by kernel_rfl) ?_)
  refine m_false (by kernel_rfl) ?_
  refine wpAny_bind (m_is (some "type.__new__") (by kernel_rfl) ?_)
  refine wpAny_bind (wpAny_pure ?_)
  refine wpAny_bind (wpAny_holding (wpAny_call (codeAny_of_tree ?_)))
  show wpAny _ A.in1.in1 (callAny (.builtin "type.__new__") _) _ _ _
  refine wpAny_bind (m_is () (tnew_check _ _ _) ?_)
  refine wpAny_pure ⟨plainId_quiet (by decide +kernel) _, codeAny_builtin entry_tnew ?_⟩
  rw [Around.under_plainId (by decide +kernel) _]
  refine body _ _ _ fun a h' t' ⟨o, c, hC, hcl, hd⟩ q => ?_
  refine wpAny_bind (m_inst true hC hcl (by rw [isSubtype_type]; kernel_rfl) ?_)
  refine wpAny_bind (wpAny_holding ?_)
  delta callSpecial?
  refine wpAny_bind (m_special (some (.builtin "type.__init__")) hC hcl (by kernel_rfl) ?_)
  refine wpAny_holding ?_
  refine wpAny_bind (m_is (.builtin "type.__init__", [.ref a]) (slot_tinit.bind _) ?_)
  refine wpAny_bind ?_
  show wpAny _ _ (call (.builtin "type.__init__") [.ref a, .str (Str.ofString "K") t0, .ref bt, .ref ns]) _ _ _
  refine wpAny_call_entry (T := "type") slot_tinit ⟨o, hC, hcl⟩ entry_tinit ?_ (args_tinit _ _ _ _)
  delta Builtin.«type.__init__»
  refine wpAny_pure ⟨_, rfl, ?_⟩
  refine wpAny_pure ?_
  exact wpAny_pure q
end
end
section
noncomputable def keyTok (e : DictEntry) : Tok := match e.key with | .str _ k => k | _ => 0
noncomputable def valTok (e : DictEntry) : Tok := match e.val with | .str _ t => t | .int _ t => t | _ => 0
noncomputable def valStr (e : DictEntry) : Str := match e.val with | .str x _ => x | _ => tx []
noncomputable def entsOf (o : Obj) : List DictEntry := match o.data with | .dict es _ => es.toList | _ => []
noncomputable def kOf (o : Obj) (i : Nat) : Tok := match (entsOf o)[i]? with | some e => keyTok e | none => 0
noncomputable def vOf (o : Obj) (i : Nat) : Tok := match (entsOf o)[i]? with | some e => valTok e | none => 0
noncomputable def sOf (o : Obj) (i : Nat) : Str := match (entsOf o)[i]? with | some e => valStr e | none => tx []
noncomputable def deqO : Obj := { cls := .type "collections.deque", data := .fields #[.none, .int 0 0] }
noncomputable def LexMade (P : Params) (h₀ : Heap) (T : Str) (v : Value) (h' : Heap) : Prop :=
  ∃ (st dst lx dlx pb fs : Addr) (k1 k2 k3 t0 t1 t2 : Tok) (k w : Nat → Tok) (WC : Str) (ts tl tt : Tok), v = .ref lx ∧ Kept [] h₀ h' ∧
    h'.get? st = some (instObj 587 dst) ∧ h'.get? dst = some (sioD P k1 k2 k3 t0 t1 t2 T 0) ∧ h'.get? lx = some (instObj 722 dlx) ∧ h'.get? dlx = some (lexD P k w WC st pb fs (.str (tx [32]) ts) 1 tl (tx []) tt) ∧
    h'.get? pb = some deqO ∧ h'.get? fs = some deqO ∧ (∀ c ∈ WC.cps.toList, (c == 39 || c == 34) = false) ∧
    (∀ a ∈ [st, dst, lx, dlx, pb, fs], h₀.get? a = none) ∧ [fs, pb, st, dst, lx, dlx].Pairwise (· > ·)
end
section
theorem fill_Read : PySem.Challenge.rw_ij0136_01 = PySem.Challenge.rw_ij0136_01 ∧ pre.heap_1 = pre.heap_1 := by
  k_with "call ref" => (((with_reducible show wpAny _ _ (call (Value.ref 53) _) _ _ _); (try dsimp only [List.cons_append, List.nil_append]); (with_reducible rename Fr _ _ _ _ => F'); (with_reducible rename News _ _ _ _ => N'); (refine' k_index ?B F' N' ?X ?T rfl rfl ?dp ?un ?h1 ?h2 ?_; (case B => with_reducible assumption); (case X => with_reducible assumption); (case T => with_reducible assumption); (case dp => omega); (case un => omega); (case h1 => omega); (case h2 => omega); intro t' h' tk' F' N'); (try dsimp only); (try k_sweep)))
  k_with "call ref" => (((with_reducible show wpAny _ _ (call (Value.ref 371) _) _ _ _); (try dsimp only [List.cons_append, List.nil_append]); (with_reducible rename Fr _ _ _ _ => F'); (with_reducible rename News _ _ _ _ => N'); (refine' k_check ?B F' N' ?X ?T rfl rfl ?dp ?un ?ap ?_; (case B => with_reducible assumption); (case X => with_reducible assumption); (case T => with_reducible assumption); (case dp => omega); (case un => omega); (case ap => walk_at "my apart"); intro h' tk' F' N'); (try dsimp only); (try k_sweep)))
  k_fill
  exact ⟨rfl, rfl⟩
theorem take1_len {l : List Nat} {p : Nat} (h : p < l.length) : ((l.drop p).take 1).length = 1 := by rw [List.length_take, List.length_drop]; exact om_min1 h
theorem c_read {base : Heap} {s : Shared} {R : Result → Shared → Prop}
    {st dst : Addr} {k1 k2 k3 t0 t1 t2 tk : Tok} {l : List Nat} {pos : Nat}
    (B : Below (ar dp un gd outs) base outs s.heap) (X : (pre.heap_1 w.params).In base) (TT : Top p loose mean mg mb base) (V : Free base outs s.heap [(st, instObj 587 dst), (dst, sioD w.params k1 k2 k3 t0 t1 t2 (tx l) pos)])
    (hne : @Ne Nat st dst) (hdp : dp + 5 < recursionLimit) (hu : un + 40 < cLine)
    (hl : pos ≤ l.length) (hT : l.length < 1000000)
    (ret : ∀ t t2' h' tk', Kept [st, dst] s.heap h' → h'.get? st = some (instObj 587 dst) → h'.get? dst = some (sioD w.params k1 k2 k3 t0 t1 t2' (tx l) (((pos + ((l.drop pos).take 1).length : Nat) : Int))) →
      R (.ok (.ret (.str (tx ((l.drop pos).take 1)) t))) { s with heap := h', toks := tk' }) :
    codeAny (model PG w) (ar dp un gd outs) (.call (.ref 533) ⟨[.ref st, .int 1 tk], []⟩) R s := by
  have hT' : (tx l).length < 1000000 := by rw [tx_len]; exact hT
  have hl' : (pos : Int) ≤ ((tx l).length : Int) := by rw [tx_len]; exact Int.ofNat_le.2 hl
  k_dflt ktr_unf
  ktr_rel
  all_goals (repeat' (first | k_unfold | dsimp only))
  · rename_i hx
    rw [tx_len] at hx
    have e : (l.drop pos).take 1 = [] := by rw [List.drop_of_length_le (Int.ofNat_le.1 hx)]; rfl
    rw [e] at ret
    exact ret _ _ _ _ (kept_of (by with_reducible assumption) (by with_reducible assumption)) ((by with_reducible assumption : News _ _ _ _) _ (.head _)).1 ((by with_reducible assumption : News _ _ _ _) _ (.tail _ (.head _))).1
  · have hx : pos + 1 < l.length := by
      have q : ((pos : Int) + 1 < ((tx l).length : Int)) := by assumption
      rw [tx_len] at q; exact Int.ofNat_lt.1 q
    have e := cut_read l pos (pos + 1) (Nat.le_succ _) (Nat.le_of_lt hx)
    rw [show pos + 1 - pos = 1 from Nat.add_sub_cancel_left pos 1, show ((pos + 1 : Nat) : Int) = (pos : Int) + 1 from rfl] at e
    rw [e]
    have e2 : ((l.drop pos).take 1).length = 1 := take1_len (Nat.lt_of_succ_lt hx)
    rw [e2] at ret
    exact ret _ _ _ _ (kept_of (by with_reducible assumption) (by with_reducible assumption)) ((by with_reducible assumption : News _ _ _ _) _ (.head _)).1 ((by with_reducible assumption : News _ _ _ _) _ (.tail _ (.head _))).1
  · have hx : l.length = pos + 1 := by
      have q : ¬ ((pos : Int) + 1 < ((tx l).length : Int)) := by assumption
      have q2 : ¬ (((tx l).length : Int) ≤ (pos : Int)) := by assumption
      rw [tx_len] at q q2; exact om_len1 hl q q2
    have e := cut_read l pos l.length hl (Nat.le_refl _)
    rw [tx_len, e]
    have e3 : (l.drop pos).take (l.length - pos) = (l.drop pos).take 1 := by rw [om_sub_one hx]
    rw [e3]
    have e2 : ((l.drop pos).take 1).length = 1 := take1_len (Nat.lt_of_lt_of_eq (Nat.lt_succ_self _) hx.symm)
    rw [e2, show (((pos + 1 : Nat)) : Int) = ((tx l).length : Int) by rw [tx_len, hx]] at ret
    exact ret _ _ _ _ (kept_of (by with_reducible assumption) (by with_reducible assumption)) ((by with_reducible assumption : News _ _ _ _) _ (.head _)).1 ((by with_reducible assumption : News _ _ _ _) _ (.tail _ (.head _))).1
end
section
theorem fill_Rl : PySem.Challenge.rw_ij0136_01 = PySem.Challenge.rw_ij0136_01 ∧ pre.heap_1 = pre.heap_1 := by
  k_fill
  exact ⟨rfl, rfl⟩
theorem c_readline {base : Heap} {s : Shared} {R : Result → Shared → Prop}
    {st dst : Addr} {k1 k2 k3 t0 t1 t2 : Tok} {l : List Nat} {pos : Nat}
    (B : Below (ar dp un gd outs) base outs s.heap) (X : (pre.heap_1 w.params).In base) (TT : Top p loose mean mg mb base) (V : Free base outs s.heap [(st, instObj 587 dst), (dst, sioD w.params k1 k2 k3 t0 t1 t2 (tx l) pos)])
    (hne : @Ne Nat st dst) (hdp : dp + 5 < recursionLimit) (hu : un + 40 < cLine)
    (hl : pos ≤ l.length) (hT : l.length < 1000000)
    (ret : ∀ r t2' h' tk', Kept [st, dst] s.heap h' → h'.get? st = some (instObj 587 dst) → (∃ q : Nat, pos ≤ q ∧ q ≤ l.length ∧ l.drop q = skipLine' (l.drop pos) ∧ h'.get? dst = some (sioD w.params k1 k2 k3 t0 t1 t2' (tx l) (q : Int))) →
      R (.ok (.ret r)) { s with heap := h', toks := tk' }) :
    codeAny (model PG w) (ar dp un gd outs) (.call (.ref 541) ⟨[.ref st], []⟩) R s := by
  have hT' : (tx l).length < 1000000 := by rw [tx_len]; exact hT
  have hl' : (pos : Int) ≤ ((tx l).length : Int) := by rw [tx_len]; exact Int.ofNat_le.2 hl
  k_dflt ktr_unf
  ktr_rel
  all_goals (repeat' (first | k_unfold | dsimp only))
  · have hx : ((tx l).length : Int) ≤ pos := by first | with_reducible assumption | assumption
    rw [tx_len] at hx
    exact ret _ _ _ _ (kept_of (by first | with_reducible assumption | assumption) (by first | with_reducible assumption | assumption)) ((by first | with_reducible assumption | assumption : News _ _ _ _) _ (.head _)).1 ⟨pos, Nat.le_refl _, hl, by rw [List.drop_of_length_le (Int.ofNat_le.1 hx)]; rfl, ((by first | with_reducible assumption | assumption : News _ _ _ _) _ (.tail _ (.head _))).1⟩
  · have hx : 0 ≤ Txt.find3 (tx l) (Str.ofString "\n") pos := by first | with_reducible assumption | assumption
    rcases line_spec l pos hl with ⟨h1, _⟩ | ⟨k, h1, h2, h3, h4⟩
    · rw [h1] at hx; exact absurd hx (by decide)
    · have h5 := ((by first | with_reducible assumption | assumption : News _ _ _ _) _ (.tail _ (.head _))).1
      rw [h1] at h5
      exact ret _ _ _ _ (kept_of (by first | with_reducible assumption | assumption) (by first | with_reducible assumption | assumption)) ((by first | with_reducible assumption | assumption : News _ _ _ _) _ (.head _)).1 ⟨k + 1, Nat.le_succ_of_le h2, h3, h4.symm, h5⟩
  · have hx : ¬ (0 ≤ Txt.find3 (tx l) (Str.ofString "\n") pos) := by first | with_reducible assumption | assumption
    rcases line_spec l pos hl with ⟨_, h2⟩ | ⟨k, h1, h2, h3, h4⟩
    · have h5 := ((by first | with_reducible assumption | assumption : News _ _ _ _) _ (.tail _ (.head _))).1
      rw [show ((tx l).length : Int) = ((l.length : Nat) : Int) by rw [tx_len]] at h5
      exact ret _ _ _ _ (kept_of (by first | with_reducible assumption | assumption) (by first | with_reducible assumption | assumption)) ((by first | with_reducible assumption | assumption : News _ _ _ _) _ (.head _)).1 ⟨l.length, hl, Nat.le_refl _, by rw [h2, List.drop_length], h5⟩
    · rw [h1] at hx; exact absurd (Int.natCast_nonneg k) hx
end
section
theorem fill_Tn : PySem.Challenge.rw_ij0136_01 = PySem.Challenge.rw_ij0136_01 ∧ pre.heap_1 = pre.heap_1 := by
  k_with "my get" => (first | exact PySem.W.X.Mem.at (by with_reducible assumption) 0 _ _ rfl | exact PySem.W.X.Mem.at (by with_reducible assumption) 1 _ _ rfl | exact PySem.W.X.Mem.at (by with_reducible assumption) 2 _ _ rfl | exact PySem.W.X.Mem.at (by with_reducible assumption) 3 _ _ rfl | exact PySem.W.X.Mem.at (by with_reducible assumption) 4 _ _ rfl | exact PySem.W.X.Mem.at (by with_reducible assumption) 5 _ _ rfl | exact PySem.W.X.Mem.at (by with_reducible assumption) 6 _ _ rfl | exact PySem.W.X.Mem.at (by with_reducible assumption) 7 _ _ rfl | exact PySem.W.X.Mem.at (by with_reducible assumption) 8 _ _ rfl | exact PySem.W.X.Mem.old (by with_reducible assumption) _ _ (by with_reducible assumption) (by rfl))
  k_with "my p" => (first | refine PySem.W.X.x_rule ?_ | refine PySem.W.X.x_at ?_ | refine PySem.W.X.x_point ?_ | refine PySem.W.X.x_ask ?_ | refine m_fresh ?_ | (refine m_alloc (by with_reducible assumption) ?_; intro _ _ _) | ((refine' m_load ?hm9 ?_; (case hm9 => walk_at "my get"))))
  k_fill
  exact ⟨rfl, rfl⟩
open PySem.Builtin PySem.W.X
noncomputable def kE (P : Params) (k v : Nat → Tok) (f : Nat → Addr) (sl stt : Addr) : List DictEntry :=
  [ent P (Str.ofString "__module__") (k 0) (.str (Str.ofString "cpy313.functools") (v 0)), ent P (Str.ofString "__qualname__") (k 1) (.str (Str.ofString "cmp_to_key.<locals>.K") (v 1)), ent P (Str.ofString "__firstlineno__") (k 2) (.int 725 (v 2)),
    ent P (Str.ofString "__slots__") (k 3) (.ref sl), ent P (Str.ofString "__init__") (k 4) (.ref (f 0)), ent P (Str.ofString "__lt__") (k 5) (.ref (f 1)), ent P (Str.ofString "__gt__") (k 6) (.ref (f 2)), ent P (Str.ofString "__eq__") (k 7) (.ref (f 3)),
    ent P (Str.ofString "__le__") (k 8) (.ref (f 4)), ent P (Str.ofString "__ge__") (k 9) (.ref (f 5)), ent P (Str.ofString "__hash__") (k 10) .none, ent P (Str.ofString "__static_attributes__") (k 11) (.ref stt)]
noncomputable def clsO (nd : Addr) (mro : List Value) (hasDict : Bool) (sn : List Str) (sl : Array (Option Value)) : Obj :=
  { cls := .type "type", data := .cls { name := Str.ofString "K", bases := [.type "object"], mro := mro, ns := nd, qualname := Str.ofString "cmp_to_key.<locals>.K", hasDict := hasDict, slotNames := sn }, slots := sl }
noncomputable def kD (P : Params) (k v : Nat → Tok) (f : Nat → Addr) (sl stt : Addr) (more : List DictEntry) (n : Nat) : Obj :=
  { cls := .type "dict", data := .dict ([ent P (Str.ofString "__module__") (k 0) (.str (Str.ofString "cpy313.functools") (v 0)), ent P (Str.ofString "__firstlineno__") (k 2) (.int 725 (v 2)),
    ent P (Str.ofString "__slots__") (k 3) (.ref sl), ent P (Str.ofString "__init__") (k 4) (.ref (f 0)), ent P (Str.ofString "__lt__") (k 5) (.ref (f 1)), ent P (Str.ofString "__gt__") (k 6) (.ref (f 2)), ent P (Str.ofString "__eq__") (k 7) (.ref (f 3)),
    ent P (Str.ofString "__le__") (k 8) (.ref (f 4)), ent P (Str.ofString "__ge__") (k 9) (.ref (f 5)), ent P (Str.ofString "__hash__") (k 10) .none, ent P (Str.ofString "__static_attributes__") (k 11) (.ref stt)] ++ more).toArray n }
noncomputable def memO (a : Addr) (tm : Tok) : Obj := { cls := .type "member_descriptor", data := .fields #[.str (Str.ofString "obj") tm, .ref a, .builtin "proto.slot", .builtin "proto.slot#set", rawInt 0] }
noncomputable def clsK (bt a nd : Addr) (t0 tq : Tok) : Obj := clsO nd [.ref a, .type "object"] false [Str.ofString "obj"] #[some (.ref bt), none, some (.str (Str.ofString "K") t0), some (.str (Str.ofString "cmp_to_key.<locals>.K") tq), some (.builtin "object.__new__"), some (.bool false)]
theorem slots_read {w : World} {A : Around} {h : Heap} {g : Array GenState} {d : Drawn} {t : Nat} {os : OsState} {Q : Slots.Plan → Shared → Prop} {E : Value → Shared → Prop} {sl stt : Addr} {ts : Tok} {k v : Nat → Tok} {f : Nat → Addr} {n2 : Nat} {os3 : Option Addr} {sl3 : Array (Option Value)}
    (hsl : h.get? sl = some ⟨.type "list", os3, .seq #[.str (Str.ofString "obj") ts] n2, sl3⟩)
    (x : ∀ h', (∀ b o, h.get? b = some o → h'.get? b = some o) → Q { names := [Str.ofString "obj"], dict := false, weak := false, inherited := [] } ⟨h', g, d, t, os⟩) :
    wpAny (model PG w) A (Slots.read (Str.ofString "K") [.type "object"] (kE w.params k v f sl stt).toArray) Q E ⟨h, g, d, t, os⟩ := by
  delta Slots.read
  refine wpAny_bind (m_is (.type "object") (by kernel_rfl) ?_)
  refine wpAny_bind (m_is [] (by kernel_rfl) ?_)
  refine wpAny_bind (m_is false (by kernel_rfl) ?_)
  refine wpAny_bind (m_is false (by kernel_rfl) ?_)
  refine wpAny_bind (m_is false (by kernel_rfl) ?_)
  refine wpAny_bind (wpAny_rule ?_)
  refine wpAny_bind (m_load hsl (m_is none rfl ?_))
  refine wpAny_bind ?_
  show wpAny _ _ (collect (.ref sl)) _ _ _
  refine wpAny_collect_seq (s := ⟨h, g, d, t, os⟩) sl (.inl rfl) hsl rfl rfl (fun h' kk => ?_)
  refine wpAny_bind (m_is false (by kernel_rfl) ?_)
  refine wpAny_bind (m_is (false, false, #[Str.ofString "obj"], []) (by kernel_rfl) ?_)
  refine wpAny_bind (m_is ([Str.ofString "obj"], 3) (by kernel_rfl) ?_)
  refine wpAny_bind (m_is (false, false) (by kernel_rfl) ?_)
  exact wpAny_pure (x h' kk)
theorem tn {w : World} {A : Around} {s : Shared} {Q : Fin → Shared → Prop} {E : Value → Shared → Prop} {bt ns sl stt : Addr} {t0 ts : Tok} {k v : Nat → Tok} {f : Nat → Addr} {lo n1 n2 : Nat} {od ob os3 : Option Addr} {sl1 sl2 sl3 : Array (Option Value)}
    (hns : s.heap.get? ns = some ⟨.type "dict", od, .dict (kE w.params k v f sl stt).toArray lo, sl1⟩) (hbt : s.heap.get? bt = some ⟨.type "tuple", ob, .seq #[.type "object"] n1, sl2⟩)
    (hsl : s.heap.get? sl = some ⟨.type "list", os3, .seq #[.str (Str.ofString "obj") ts] n2, sl3⟩) (hsm : (ns == sysModules) = false)
    {oSt : Obj} (hcs : s.heap.get? cStatics = some oSt) (hno : nsLook (Str.ofString "thirdparty.any") oSt = pure none) {fo : Nat → Obj} (hfn : ∀ i, s.heap.get? (f i) = some (fo i) ∧ (fo i).cls = .type "function") {ost : Option Addr} {dst : Data} {sst : Array (Option Value)} (hstt : s.heap.get? stt = some ⟨.type "tuple", ost, dst, sst⟩)
    (x : ∀ a nd md so bm h' t' tm to td, Mem s.heap h' [] [(bm, bimO a), (so, supO a), (md, memO a tm), (a, clsK bt a nd t0 (v 1)), (nd, kD w.params k v f sl stt [ent w.params (Str.ofString "obj") to (.ref md), ent w.params (Str.ofString "__doc__") td .none] 3)] → Q (.done (.ret (.ref a))) ⟨h', s.gens, s.drawn, t', s.os⟩) :
    wpAny (model PG w) A (Builtin.«type.__new__» ⟨[.type "type", .str (Str.ofString "K") t0, .ref bt, .ref ns], []⟩) Q E ⟨s.heap, s.gens, s.drawn, s.toks, s.os⟩ := by
  have D := Mem.start s.heap
  delta Builtin.«type.__new__»
  refine wpAny_bind (wpAny_pure ?_)
  refine wpAny_bind (m_inst true hbt rfl (by rw [isSubtype_type]; kernel_rfl) ?_)
  refine wpAny_bind (m_inst true hns rfl (by rw [isSubtype_type]; kernel_rfl) ?_)
  refine wpAny_bind (m_load hbt (m_is _ rfl ?_))
  refine wpAny_bind (m_is () (by kernel_rfl) ?_)
  refine wpAny_bind (m_is (.type "type") (by kernel_rfl) ?_)
  refine m_false rfl ?_
  refine wpAny_bind (m_is () (by kernel_rfl) ?_)
  refine wpAny_bind (m_is (.type "object") (by kernel_rfl) ?_)
  refine m_false hsm ?_
  refine wpAny_bind (m_entries hns rfl ?_)
  refine wpAny_bind (m_special (some (.builtin "dict.__iter__")) hns rfl (by kernel_rfl) ?_)
  refine m_true rfl ?_
  refine wpAny_bind (wpAny_pure ?_)
  refine wpAny_bind (wpAny_holding (slots_read hsl fun h' kk => ?_))
  replace D := m_grown D kk
  refine wpAny_bind (m_newObj D (fun nd h' D => ?_) (hd := Nat.le_of_ble_eq_true (by kernel_rfl)))
  refine m_false (by kernel_rfl) ?_
  refine wpAny_bind (m_is () (by kernel_rfl) ?_)
  refine m_false (by kernel_rfl) ?_
  refine wpAny_bind (m_nsGet (some (.str (Str.ofString "cmp_to_key.<locals>.K") (v 1))) (D.at 0 _ _ rfl) (by kernel_rfl) ?_)
  refine wpAny_bind (m_nsGet (some (.str (Str.ofString "cmp_to_key.<locals>.K") (v 1))) (D.at 0 _ _ rfl) (by kernel_rfl) ?_)
  refine wpAny_bind (m_is (some (Str.ofString "cmp_to_key.<locals>.K")) rfl ?_)
  refine wpAny_bind (wpAny_pure ?_)
  refine wpAny_bind (m_nsGet none (D.at 0 _ _ rfl) (by kernel_rfl) ?_)
  refine wpAny_bind (m_allocA (o := clsO nd [] true [] #[]) D (fun a h' D => ?_))
  refine wpAny_bind (m_setSlot (clsO nd [] true [] #[some (.ref bt)]) 0 D rfl rfl (fun h' D => ?_))
  refine wpAny_bind (m_setSlot (clsO nd [] true [] #[some (.ref bt), none, some (.str (Str.ofString "K") t0)]) 0 D rfl rfl (fun h' D => ?_))
  refine wpAny_bind (m_setSlot (clsO nd [] true [] #[some (.ref bt), none, some (.str (Str.ofString "K") t0), some (.str (Str.ofString "cmp_to_key.<locals>.K") (v 1))]) 0 D rfl rfl (fun h' D => ?_))
  refine wpAny_bind (m_nsDel (kD w.params k v f sl stt [] 1) 1 D rfl (by kernel_rfl) (by kernel_rfl) (fun h' D => ?_))
  dsimp only [List.set] at D
  refine wpAny_bind (m_nsGet none (D.at 1 _ _ rfl) (by kernel_rfl) ?_)
  refine wpAny_bind (m_for (wpAny_bind (m_nsGet none (D.at 1 _ _ rfl) (by kernel_rfl) (wpAny_pure ?_))))
  refine m_for (wpAny_bind (m_nsGet none (D.at 1 _ _ rfl) (by kernel_rfl) (wpAny_pure (m_forNil ?_))))
  refine wpAny_bind (m_nsGet none (D.at 1 _ _ rfl) (by kernel_rfl) ?_)
  refine wpAny_bind (m_nsGet none (D.at 1 _ _ rfl) (by kernel_rfl) ?_)
  refine wpAny_bind (m_is none (by kernel_rfl) ?_)
  refine wpAny_bind (m_is [Value.type "object"] (by kernel_rfl) ?_)
  refine wpAny_bind (wpAny_pure ?_)
  refine wpAny_bind (m_is false (by rw [filt]; kernel_rfl) ?_)
  refine wpAny_bind (m_updCls (clsO nd [.ref a, .type "object"] true [] #[some (.ref bt), none, some (.str (Str.ofString "K") t0), some (.str (Str.ofString "cmp_to_key.<locals>.K") (v 1))]) 0 D rfl rfl (by kernel_rfl) rfl rfl (fun h' D => ?_))
  refine wpAny_bind (m_is (some "object.__new__") (by kernel_rfl) ?_)
  refine wpAny_bind (m_setSlot (clsO nd [.ref a, .type "object"] true [] #[some (.ref bt), none, some (.str (Str.ofString "K") t0), some (.str (Str.ofString "cmp_to_key.<locals>.K") (v 1)), some (.builtin "object.__new__")]) 0 D rfl rfl (fun h' D => ?_))
  dsimp only [List.set] at D
  refine wpAny_bind (m_refresh (D.at 0 _ _ rfl) rfl rfl (D.at 1 _ _ rfl) (by kernel_rfl) rfl ?_)
  refine wpAny_bind ?_
  delta Slots.install
  refine wpAny_bind (m_for (wpAny_bind (m_nsGet none (D.at 1 _ _ rfl) (by kernel_rfl) ?_)))
  refine wpAny_bind (wpAny_mkStr ?_ (by decide))
  refine wpAny_bind (m_newObj D (fun md h' D => ?_))
  refine wpAny_bind (m_nsSetV (fun tk => kD w.params k v f sl stt [ent w.params (Str.ofString "obj") tk (.ref md)] 2) 2 D rfl rfl (by kernel_rfl) (by kernel_rfl) (by kernel_rfl) (fun h' D => ?_))
  refine wpAny_pure (m_forNil ?_)
  refine wpAny_bind (m_is false (by kernel_rfl) ?_)
  dsimp only [List.set] at D
  refine m_updCls (clsO nd [.ref a, .type "object"] false [Str.ofString "obj"] #[some (.ref bt), none, some (.str (Str.ofString "K") t0), some (.str (Str.ofString "cmp_to_key.<locals>.K") (v 1)), some (.builtin "object.__new__")]) 1 D rfl rfl rfl rfl rfl (fun h' D => ?_)
  refine wpAny_bind (m_is false (by kernel_rfl) ?_)
  refine wpAny_bind (m_setSlot (clsO nd [.ref a, .type "object"] false [Str.ofString "obj"] #[some (.ref bt), none, some (.str (Str.ofString "K") t0), some (.str (Str.ofString "cmp_to_key.<locals>.K") (v 1)), some (.builtin "object.__new__"), some (.bool false)]) 1 D rfl rfl (fun h' D => ?_))
  refine wpAny_bind (m_nsGet none (D.at 2 _ _ rfl) (by kernel_rfl) ?_)
  refine wpAny_bind (m_nsSet (fun tk => kD w.params k v f sl stt [ent w.params (Str.ofString "obj") (s.toks + 1) (.ref md), ent w.params (Str.ofString "__doc__") tk .none] 3) 2 D rfl rfl (by kernel_rfl) (by kernel_rfl) (fun h' D => ?_))
  refine wpAny_bind (m_nsGet (some (.ref (f 3))) (D.at 2 _ _ rfl) (by kernel_rfl) ?_)
  refine wpAny_bind (m_nsGet (some .none) (D.at 2 _ _ rfl) (by kernel_rfl) ?_)
  refine wpAny_bind ?_
  dsimp only [List.set] at D
  refine m_for (wpAny_bind (m_is () (by kernel_rfl) (wpAny_pure (m_forNil ?_))))
  refine wpAny_bind (wpAny_tryCatch (wpAny_holding ?_))
  refine wpAny_bind (m_entries (D.at 2 _ _ rfl) rfl ?_)
  refine wpAny_bind (m_is false (by kernel_rfl) ?_)
  refine wpAny_bind (m_entries (D.at 2 _ _ rfl) rfl ?_)
  refine wpAny_bind (m_forA ?_)
  show wpAny _ _ (forIn (_ :: _ :: _ :: _ :: _ :: _ :: _ :: _ :: _ :: _ :: _ :: _ :: _ :: []) _ _) _ _ _
  refine m_for (wpAny_bind (m_is none (by kernel_rfl) (wpAny_pure ?_)))
  refine m_for (wpAny_bind (m_is none (by kernel_rfl) (wpAny_pure ?_)))
  refine m_for (wpAny_bind (m_special none (m_old D hsl) rfl (by kernel_rfl) (wpAny_pure ?_)))
  refine m_for (wpAny_bind (m_special none (m_old D (hfn 0).1) (hfn 0).2 (by kernel_rfl) (wpAny_pure ?_)))
  refine m_for (wpAny_bind (m_special none (m_old D (hfn 1).1) (hfn 1).2 (by kernel_rfl) (wpAny_pure ?_)))
  refine m_for (wpAny_bind (m_special none (m_old D (hfn 2).1) (hfn 2).2 (by kernel_rfl) (wpAny_pure ?_)))
  refine m_for (wpAny_bind (m_special none (m_old D (hfn 3).1) (hfn 3).2 (by kernel_rfl) (wpAny_pure ?_)))
  refine m_for (wpAny_bind (m_special none (m_old D (hfn 4).1) (hfn 4).2 (by kernel_rfl) (wpAny_pure ?_)))
  refine m_for (wpAny_bind (m_special none (m_old D (hfn 5).1) (hfn 5).2 (by kernel_rfl) (wpAny_pure ?_)))
  refine m_for (wpAny_bind (m_is none (by kernel_rfl) (wpAny_pure ?_)))
  refine m_for (wpAny_bind (m_special none (m_old D hstt) rfl (by kernel_rfl) (wpAny_pure ?_)))
  refine m_for (wpAny_bind (m_special none (D.at 0 _ _ rfl) rfl (by kernel_rfl) (wpAny_pure ?_)))
  refine m_for (wpAny_bind (m_is none (by kernel_rfl) (wpAny_pure ?_)))
  refine m_forNil ?_
  refine wpAny_bind (call_superK D (D.at 1 _ _ rfl) rfl rfl (fun so h' D => ?_))
  refine wpAny_bind (wpAny_holding (getAttr_superK D (D.at 2 _ _ rfl) rfl rfl (D.at 0 _ _ rfl) (m_old D hcs) hno (fun bm h' D => ?_)))
  refine wpAny_bind (call_bim (D.at 0 _ _ rfl) (D.at 3 _ _ rfl) rfl rfl rfl ?_)
  refine wpAny_pure (wpAny_pure ?_)
  exact x _ _ _ _ _ _ _ _ _ _ D
end
section
open PySem.W.X PySem.Builtin
section
variable {prog : Program} {w : World} {A : Around} {E : Value → Shared → Prop} {h₀ h : Heap} {chg news : List (Addr × Obj)} {g : Array GenState} {d : Drawn} {t : Nat} {os : OsState}
noncomputable def prepO : Obj := { cls := .type "builtin_function_or_method", data := .fields #[.builtin "type.__prepare__", .type "type"] }
theorem slot_type_ga : Slot "type" "__getattribute__" "type.__getattribute__" := .of (owner := "type") (n := "__getattribute__") (by rw [typeLookup_type, builtinLookup_eq_fast]; kernel_rfl) (by decide +kernel) (by decide +kernel) (by decide +kernel)
  (by first | exact .inl (by decide +kernel) | exact .inr (by decide +kernel)) (by rw [isSubtype_type]; kernel_rfl)
theorem entry_type_ga : entryFor table "type.__getattribute__" = some Builtin.«type.__getattribute__» := entryFor_of_tree (by kernel_rfl)
theorem args_type_ga (a b : Value) : argsOk "type.__getattribute__" ⟨[a, b], []⟩ := by unfold argsOk; kernel_rfl
theorem prep_get {Q : Fin → Shared → Prop} (D : Mem h₀ h chg news)
    (x : ∀ b h', Mem h₀ h' chg ((b, prepO) :: news) → Q (.done (.ret (.ref b))) ⟨h', g, d, t, os⟩) : wpAny (model prog w) A (Builtin.«classmethod_descriptor.__get__» ⟨[.builtin "type.__prepare__", .none, .type "type"], []⟩) Q E ⟨h, g, d, t, os⟩ := by
  delta Builtin.«classmethod_descriptor.__get__»
  refine wpAny_bind (m_is (.builtin "type.__prepare__", none, some (.type "type")) (by kernel_rfl) ?_)
  refine wpAny_bind (wpAny_pure ?_)
  refine wpAny_bind (m_is true (by kernel_rfl) ?_)
  refine wpAny_bind (m_is true (by rw [isSubtype_type]; kernel_rfl) ?_)
  exact wpAny_bind (m_newObj D fun b h' D' => wpAny_pure (x b h' D'))
theorem ga_prep {Q : Fin → Shared → Prop} {tk : Tok} (D : Mem h₀ h chg news)
    (x : ∀ b h', Mem h₀ h' chg ((b, prepO) :: news) → Q (.done (.ret (.ref b))) ⟨h', g, d, t, os⟩) : wpAny (model prog w) A (Builtin.«type.__getattribute__» ⟨[.type "type", .str (Str.ofString "__prepare__") tk], []⟩) Q E ⟨h, g, d, t, os⟩ := by
  delta Builtin.«type.__getattribute__»
  refine wpAny_bind (wpAny_pure ?_)
  refine wpAny_bind (m_is none (by kernel_rfl) ?_)
  refine wpAny_bind (m_is (.type "type") (by kernel_rfl) ?_)
  refine wpAny_bind (m_is (some (.builtin "type.__prepare__")) (by kernel_rfl) ?_)
  refine wpAny_bind (m_is (some (.builtin "classmethod_descriptor.__get__")) (by kernel_rfl) ?_)
  refine wpAny_bind (m_is none (by kernel_rfl) ?_)
  refine wpAny_bind (m_is none (by kernel_rfl) ?_)
  refine wpAny_bind (wpAny_pure ?_)
  refine wpAny_bind (m_is (some (.builtin "type.__prepare__")) (by kernel_rfl) ?_)
  refine m_false (by kernel_rfl) ?_
  refine wpAny_bind (m_is (.type "classmethod_descriptor") (by kernel_rfl) ?_)
  refine m_false (by kernel_rfl) ?_
  refine wpAny_bind (m_is (some (.builtin "classmethod_descriptor.__get__")) (by kernel_rfl) ?_)
  refine wpAny_bind (wpAny_holding ?_)
  refine wpAny_call_entry (T := "classmethod_descriptor") slot_cmd_get (show typeOf (.builtin "type.__prepare__") = pure (.type "classmethod_descriptor") from by kernel_rfl) entry_cmd_get ?_ (args_cmd_get _ _ _)
  refine prep_get D fun b h' D' => ⟨_, rfl, ?_⟩
  exact wpAny_pure (x b h' D')
theorem m_prepare {Q : Option Value → Shared → Prop} (D : Mem h₀ h chg news)
    (x : ∀ b h', Mem h₀ h' chg ((b, prepO) :: news) → Q (some (.ref b)) ⟨h', g, d, t + 1, os⟩) : wpAny (model prog w) A (getAttr? (.type "type") (Str.ofString "__prepare__")) Q E ⟨h, g, d, t, os⟩ := by
  have hlk := slot_type_ga.lookup
  have hT : ∀ t', (⟨h, g, d, t', os⟩ : Shared).TypeIs (.type "type") "type" := fun _ => show typeOf (.type "type") = pure (.type "type") from by kernel_rfl
  unfold getAttr? getAttrBy? getAttrBy
  refine wpAny_bind (wpAny_mkText (wpAny_bind (wpAny_attempt (wpAny_holding (wpAny_bind (wpAny_typeOf (hT _) (wpAny_bind (wpAny_of_eq hlk ?_))))))))
  show wpAny _ _ (getAttrByItsOwn (.type "type") (.str _ t) (.type "type") (.builtin "type.__getattribute__") false false) _ _ _
  unfold getAttrByItsOwn hookBefore callGetattribute boundAndCalled
  refine wpAny_bind (wpAny_of_eq (show (if onTheHeap (.type "type") then typeLookup (.type "type") "__getattr__" else pure none) = pure none from rfl) ?_)
  refine wpAny_bind (wpAny_attempt (wpAny_holding ?_))
  show wpAny _ _ (bindSpecial (.builtin "type.__getattribute__") (.type "type") >>= _) _ _ _
  refine wpAny_bind (wpAny_of_eq (slot_type_ga.bind _) ?_)
  refine wpAny_mono (Q := fun v s' => ∃ b h', v = .ref b ∧ s' = ⟨h', g, d, t + 1, os⟩ ∧ Mem h₀ h' chg ((b, prepO) :: news)) (E := fun _ _ => False)
    (wpAny_call_entry slot_type_ga (hT _) entry_type_ga (ga_prep D fun b h' D' => ⟨_, rfl, b, h', rfl, rfl, D'⟩) (args_type_ga _ _)) (fun v s' hv => ?_) fun _ _ z => z.elim
  obtain ⟨b, h', rfl, rfl, D'⟩ := hv
  exact wpAny_pure (wpAny_pure (x b h' D'))
theorem entry_prep : entryFor table "type.__prepare__" = some Builtin.«type.__prepare__» := entryFor_of_tree (by kernel_rfl)
theorem call_prep {Q : Value → Shared → Prop} {b bt : Addr} {t0 : Tok} (D : Mem h₀ h chg news) (hb : h.get? b = some prepO)
    (x : ∀ ns h', Mem h₀ h' chg ((ns, { cls := .type "dict", data := .dict #[] }) :: news) → Q (.ref ns) ⟨h', g, d, t, os⟩) : wpAny (model prog w) A (call (.ref b) [.str (Str.ofString "K") t0, .ref bt] []) Q E ⟨h, g, d, t, os⟩ := by
  refine wpAny_call (codeAny_of_tree ?_)
  show wpAny _ A.in1 (callAny (.ref b) _) _ _ _
  delta callAny
  refine wpAny_bind (wpAny_load hb ?_)
  refine wpAny_bind (m_is () (by kernel_rfl) ?_)
  refine wpAny_bind (wpAny_pure (wpAny_pure ?_))
  show Code.quiet (.builtin "type.__prepare__" ⟨[.type "type", .str (Str.ofString "K") t0, .ref bt], []⟩) = true ∧ codeAny _ _ (.builtin "type.__prepare__" ⟨[.type "type", .str (Str.ofString "K") t0, .ref bt], []⟩) _ _
  refine ⟨plainId_quiet (by decide +kernel) _, codeAny_builtin entry_prep ?_⟩
  rw [Around.under_plainId (by decide +kernel) _]
  delta Builtin.«type.__prepare__»
  exact wpAny_bind (m_newObj D fun ns h' D' => wpAny_pure (x ns h' D'))
end
end
section
open PySem.W.X PySem.Builtin
section
variable {h₀ h h' : Heap} {news : List (Addr × Obj)}
theorem m_extBut (D : Mem h₀ h [] news) {i : Nat} {P : Addr} {o o' : Obj} (hi : news[i]? = some (P, o)) (x : Heap.ExtBut P h h') (e' : h'.get? P = some o') : Mem h₀ h' [] (news.set i (P, o')) := by
  have sp := pairwise_split hi
  have z := D.nw (P, o) (List.mem_of_getElem? hi)
  have ord' := D.ord
  rw [sp, List.map_append, List.map_cons] at ord'
  have p1 : ∀ p ∈ news.take i, p.1 ≠ P := fun p hp => Nat.ne_of_gt ((List.pairwise_append.mp ord').2.2 p.1 (List.mem_map_of_mem hp) P (.head _))
  have p2 : ∀ p ∈ news.drop (i + 1), p.1 ≠ P := fun p hp => Nat.ne_of_lt ((List.pairwise_cons.mp (List.pairwise_append.mp ord').2.1).1 p.1 (List.mem_map_of_mem hp))
  have e : news.set i (P, o') = news.take i ++ (P, o') :: news.drop (i + 1) := by
    obtain ⟨hl, _⟩ := List.getElem?_eq_some_iff.mp hi
    exact List.set_eq_take_append_cons_drop.trans (if_pos hl)
  refine ⟨fun b o₁ e₁ q => x b o₁ (fun y => by subst y; rw [e₁] at z; cases z.2) (D.keep b o₁ e₁ q), fun p hp => (nomatch hp), D.cd, fun p hp => ?_, by rw [e, List.map_append, List.map_cons]; exact ord'⟩
  rw [e] at hp
  rcases List.mem_append.mp hp with hp | hp
  · have y := D.nw p (by rw [sp]; exact List.mem_append.mpr (.inl hp))
    exact ⟨x _ _ (p1 p hp) y.1, y.2⟩
  · rcases List.mem_cons.mp hp with rfl | hp
    · exact ⟨e', z.2⟩
    · have y := D.nw p (by rw [sp]; exact List.mem_append.mpr (.inr (.tail _ hp)))
      exact ⟨x _ _ (p2 p hp) y.1, y.2⟩
theorem m_found (D : Mem h₀ h [] news) {a : Addr} {o : Obj} (e : h.get? a = some o) (lt : ∀ q ∈ news, q.1 < a) (n0 : h₀.get? a = none) : Mem h₀ h [] ((a, o) :: news) := by
  refine ⟨D.keep, D.ch, D.cd, fun p hp => ?_, List.Pairwise.cons (fun b hb => ?_) D.ord⟩
  · rcases List.mem_cons.mp hp with rfl | hp
    · exact ⟨e, n0⟩
    · exact D.nw p hp
  · obtain ⟨q, hq, rfl⟩ := List.mem_map.mp hb
    exact lt q hq
theorem m_sub (D : Mem h₀ h [] news) {l : List (Addr × Obj)} (hs : l.Sublist news) : Mem h₀ h [] l := ⟨D.keep, D.ch, D.cd, fun p hp => D.nw p (hs.subset hp), D.ord.sublist (hs.map _)⟩
theorem m_lt (D : Mem h₀ h [] news) {q : Addr × Obj} (hq : q ∈ news) : q.1 < h.objs.size := Heap.lt_size (D.nw q hq).1
theorem m_none (D : Mem h₀ h [] news) {b : Addr} (hb : h.objs.size ≤ b) : h₀.get? b = none := by
  cases q : h₀.get? b with
  | none => rfl
  | some o => exact absurd (Heap.lt_size (D.keep b o q (by simp [away]))) (Nat.not_lt.mpr hb)
theorem set_keys {l : List (Addr × Obj)} {i : Nat} {P : Addr} {o o' : Obj} (hi : l[i]? = some (P, o)) {q : Addr × Obj} (hq : q ∈ l.set i (P, o')) : q.1 = P ∨ q ∈ l := by
  rcases List.mem_or_eq_of_mem_set hq with h | h
  · exact .inr h
  · exact .inl (by rw [h])
end
section
variable {w : World} {A : Around} {E : Value → Shared → Prop} {h₀ h base : Heap} {news : List (Addr × Obj)} {g : Array GenState} {d : Drawn} {t : Nat} {os : OsState} {p : Program} {loose : List Str} {mean : ExcName → Option Value} {mg mb : Str → Option Value}
  {name qual : Str} {params : Arguments} {body : List Stmt} {scope : Scope} {env : Env} {c P : Addr} {ps : Array Value} {pos : Pos} {firstLine : Nat} {clos : List (Str × Addr)} {Q : Value → Shared → Prop}
theorem m_bmain (T : Top p loose mean mg mb base) (kB : ∀ b o, base.get? b = some o → h₀.get? b = some o) (D : Mem h₀ h [] news) (hP : h₀.get? P = none) :
    h.Ns mainGlobals mg ∧ mainGlobals ≠ P ∧ h.BuiltinsAt mg P := by
  have k : ∀ b o, base.get? b = some o → h.get? b = some o := fun b o e => D.keep b o (kB b o e) (by simp [away])
  obtain ⟨bm, ob, b1, b2, b3, b4, b5, b6⟩ := T.bmain
  refine ⟨T.g.keeps k, fun q => ?_, bm, ob, b1, b2, fun q => ?_, fun q => ?_, k _ _ b3, b4, b5, b6⟩
  · obtain ⟨o, es, ep, e, hd, _⟩ := T.g
    rw [← q, kB _ _ e] at hP; cases hP
  · obtain ⟨o, es, ep, e, hd, _⟩ := T.g
    rw [q, e] at b3; cases b3; rw [hd] at b6; cases b6
  · rw [← q, kB _ _ b3] at hP; cases hP
theorem m_fnK (T : Top p loose mean mg mb base) (kB : ∀ b o, base.get? b = some o → h₀.get? b = some o) (i : Nat) (D : Mem h₀ h [] news) (hi : news[i]? = some (P, tabObj ps)) (hcl : closureFor scope env = pure clos) (hge0 : env.globals = mainGlobals) (hcode : env.code = .ref c) (C : CodeHd h c P)
    (ht : TriplesOk ps.toList) (hnf : codeAmong pos ps.toList = none)
    (x : ∀ f c' oc vs tq ctv doc h' tk, Mem h₀ h' [] ((f, fnMade name qual params body scope clos doc ((mg "__name__").getD .none) c' ctv) :: (c', oc) :: news.set i (P, tabObj (ps ++ #[rawInt pos.line, rawInt pos.col, .ref c']))) → oc.data = .fields vs → vs[1]? = some (.str qual tq) → Q (.ref f) ⟨h', g, d, tk, os⟩) :
    wpAny (model PG w) A (makeFunction name qual params (.stmts body) scope env [] [] [] pos firstLine) Q E ⟨h, g, d, t, os⟩ := by
  have hP := D.nw _ (List.mem_of_getElem? hi)
  obtain ⟨b1, b2, b3⟩ := m_bmain T kB D hP.2
  refine makeFunction_K (mg := mg) hcl hge0 b1 hcode C hP.1 ht hnf b2 b3 fun c' ctv doc h' tk hx hge hlt hrec htb => ?_
  obtain ⟨c₂, oc, vs, tq, e2, hoc, hd, hv⟩ := hrec
  cases e2
  have D1 := m_extBut D hi hx htb
  have lt1 : ∀ q ∈ news.set i (P, tabObj (ps ++ #[rawInt pos.line, rawInt pos.col, .ref c'])), q.1 < c' := fun q hq => by
    rcases set_keys hi hq with e | hm
    · rw [e]; exact Nat.lt_of_lt_of_le (m_lt D (List.mem_of_getElem? hi)) hge
    · exact Nat.lt_of_lt_of_le (m_lt D hm) hge
  have D2 := m_found D1 hoc lt1 (m_none D hge)
  exact x _ c' oc vs tq ctv doc _ tk (D2.alloc rfl) hd hv
theorem m_fnHit {c' : Addr} (T : Top p loose mean mg mb base) (kB : ∀ b o, base.get? b = some o → h₀.get? b = some o) (i : Nat) (D : Mem h₀ h [] news) (hi : news[i]? = some (P, tabObj ps)) (hcl : closureFor scope env = pure clos) (hge0 : env.globals = mainGlobals) (hcode : env.code = .ref c) (C : CodeHd h c P)
    (ht : TriplesOk ps.toList) (hf : codeAmong pos ps.toList = some (.ref c'))
    (x : ∀ f ctv doc h' tk, Mem h₀ h' [] ((f, fnMade name qual params body scope clos doc ((mg "__name__").getD .none) c' ctv) :: news) → Q (.ref f) ⟨h', g, d, tk, os⟩) :
    wpAny (model PG w) A (makeFunction name qual params (.stmts body) scope env [] [] [] pos firstLine) Q E ⟨h, g, d, t, os⟩ := by
  have hP := D.nw _ (List.mem_of_getElem? hi)
  obtain ⟨b1, b2, b3⟩ := m_bmain T kB D hP.2
  refine makeFunction_hit (mg := mg) hcl hge0 b1 hcode C hP.1 ht hf b3 fun ctv doc h' tk hk hsz => ?_
  exact x _ ctv doc _ tk ((m_grown D hk).alloc rfl)
noncomputable def codO (name qual : Str) (line : Nat) (P ft : Addr) (t1 t2 : Tok) (f1 f2 : Value) (fl : Nat) (inF : Bool) (tx tu : Nat) : Obj :=
  { cls := .type "code", data := .fields #[.str name t1, .str qual t2, f1, rawInt line, rawInt 0, rawInt 0, rawInt 0, rawInt fl, .ref ft, .bool inF, rawInt tx, .ref P, .none, .none, .none, .none, rawInt tu, rawInt line, f2] }
theorem m_classCode (i : Nat) (D : Mem h₀ h [] news) (hi : news[i]? = some (P, tabObj ps)) (hcode : env.code = .ref c) (C : CodeHd h c P) (ht : TriplesOk ps.toList) (hnf : codeAmong pos ps.toList = none) {fr : List Str} (hfr : scope.freeNames = fr)
    (x : ∀ c' P' oc h' tk, Mem h₀ h' [] ((c', oc) :: (P', tabObj #[]) :: news.set i (P, tabObj (ps ++ #[rawInt pos.line, rawInt pos.col, .ref c']))) → (∀ h'' : Heap, h''.get? c' = some oc → CodeHd h'' c' P') → Q (.ref c') ⟨h', g, d, tk, os⟩) :
    wpAny (model PG w) A (classCode env pos firstLine name qual scope) Q E ⟨h, g, d, t, os⟩ := by
  have hP := D.nw _ (List.mem_of_getElem? hi)
  obtain ⟨o, vs, file, tf, flags, tg, inF, text, tt, op, ho, hd, h11, h2, h7, h9, h10, hop, hpd, htr, hne⟩ := C.code hP.1 ht
  unfold classCode codeAt
  rw [hcode, if_neg (show ¬ ((Value.ref c == Value.none) = true) from Bool.false_ne_true)]
  refine wpAny_bind (wpAny_fieldsOf ho hd ?_)
  rw [h11]
  refine wpAny_bind (wpAny_fieldsOf hop hpd ?_)
  rw [hnf, h2, h7, h9, h10]
  refine wpAny_bind ?_
  unfold newCode
  rw [hfr]
  refine (wpAny_bind (wpAny_mkText (wpAny_bind (wpAny_mkText (wpAny_bind (wpAny_mkText (wpAny_bind (wpAny_mkStrs fun fs =>
    wpAny_bind ?_))))))))
  unfold newTextTuple newObjAsIs
  refine wpAny_bind (m_allocA D fun ft h1 D1 => ?_)
  refine wpAny_pure (wpAny_bind (m_allocA D1 fun P' h2 D2 => ?_))
  refine wpAny_bind (wpAny_pure (wpAny_bind (wpAny_pure (wpAny_bind (wpAny_pure (wpAny_bind (wpAny_fresh (wpAny_bind (wpAny_mkText ?_)))))))))
  unfold newFields
  refine m_newObj D2 (fun c' h3 D3 => ?_)
  have hP3 := D3.at (i + 3) P _ hi
  have hm : Obj.mapFields (fun vs => if (codeAmong pos vs.toList).isSome = true then vs else vs ++ #[rawInt pos.line, rawInt pos.col, .ref c']) (tabObj ps) = tabObj (ps ++ #[rawInt pos.line, rawInt pos.col, .ref c']) := by
    simp only [Obj.mapFields, hnf]
    rfl
  refine wpAny_bind (wpAny_updateFieldsOfTheText hP3 rfl ?_)
  have D4 := D3.update (f := fun o => Obj.mapFields (fun vs => if (codeAmong pos vs.toList).isSome = true then vs else vs ++ #[rawInt pos.line, rawInt pos.col, .ref c']) o) (i := i + 3) hi (by rw [hm]; rfl)
  rw [hm] at D4
  have hP4 := D4.at (i + 3) P _ (by
    obtain ⟨hl, _⟩ := List.getElem?_eq_some_iff.mp hi
    show (news.set i _)[i]? = _
    rw [List.getElem?_set_self hl])
  refine wpAny_bind (wpAny_fieldsOf hP4 rfl ?_)
  have hl : (ps ++ #[rawInt pos.line, rawInt pos.col, Value.ref c']).toList = ps.toList ++ [rawInt pos.line, rawInt pos.col, .ref c'] := by simp
  rw [hl, codeAmong_snoc _ ht hnf]
  have D5 := m_sub D4 (l := (c', _) :: (P', tabObj #[]) :: news.set i (P, tabObj (ps ++ #[rawInt pos.line, rawInt pos.col, .ref c']))) (.cons_cons _ (.cons_cons _ (.cons _ (.refl _))))
  have hne' : c' ≠ P' := D5.ne 0 1 _ _ _ _ rfl rfl rfl
  exact wpAny_pure (x c' P' _ _ _ D5 fun h'' e'' => ⟨_, _, _, _, _, _, _, _, _, e'', rfl, rfl, rfl, rfl, rfl, rfl, rfl, rfl, hne'⟩)
noncomputable abbrev tabL (l : List Value) : Obj := tabObj l.toArray
theorem app_arr (l : List Value) (a b c : Value) : l.toArray ++ #[a, b, c] = (l ++ [a, b, c]).toArray := by simp
theorem m_fnL {l : List Value} (T : Top p loose mean mg mb base) (kB : ∀ b o, base.get? b = some o → h₀.get? b = some o) (i : Nat) (D : Mem h₀ h [] news) (hi : news[i]? = some (P, tabL l)) (hcl : closureFor scope env = pure clos) (hge0 : env.globals = mainGlobals) (hcode : env.code = .ref c) (C : CodeHd h c P)
    (ht : TriplesOk l) (hnf : codeAmong pos l = none)
    (x : ∀ f c' oc vs tq ctv doc h' tk, Mem h₀ h' [] ((f, fnMade name qual params body scope clos doc ((mg "__name__").getD .none) c' ctv) :: (c', oc) :: news.set i (P, tabL (l ++ [rawInt pos.line, rawInt pos.col, .ref c']))) → oc.data = .fields vs → vs[1]? = some (.str qual tq) → Q (.ref f) ⟨h', g, d, tk, os⟩) :
    wpAny (model PG w) A (makeFunction name qual params (.stmts body) scope env [] [] [] pos firstLine) Q E ⟨h, g, d, t, os⟩ :=
  m_fnK T kB i D hi hcl hge0 hcode C ht hnf fun f c' oc vs tq ctv doc h' tk D' => x f c' oc vs tq ctv doc h' tk (by rw [app_arr] at D'; exact D')
theorem m_clsL {l : List Value} (i : Nat) (D : Mem h₀ h [] news) (hi : news[i]? = some (P, tabL l)) (hcode : env.code = .ref c) (C : CodeHd h c P) (ht : TriplesOk l) (hnf : codeAmong pos l = none) {fr : List Str} (hfr : scope.freeNames = fr)
    (x : ∀ c' P' oc h' tk, Mem h₀ h' [] ((c', oc) :: (P', tabL []) :: news.set i (P, tabL (l ++ [rawInt pos.line, rawInt pos.col, .ref c']))) → (∀ h'' : Heap, h''.get? c' = some oc → CodeHd h'' c' P') → Q (.ref c') ⟨h', g, d, tk, os⟩) :
    wpAny (model PG w) A (classCode env pos firstLine name qual scope) Q E ⟨h, g, d, t, os⟩ :=
  m_classCode i D hi hcode C ht hnf hfr fun c' P' oc h' tk D' => x c' P' oc h' tk (by rw [app_arr] at D'; exact D')
theorem m_clsHit {l : List Value} {cv : Value} (i : Nat) (D : Mem h₀ h [] news) (hi : news[i]? = some (P, tabL l)) (hcode : env.code = .ref c) (C : CodeHd h c P) (ht : TriplesOk l) (hf : codeAmong pos l = some cv)
    (x : Q cv ⟨h, g, d, t, os⟩) : wpAny (model PG w) A (classCode env pos firstLine name qual scope) Q E ⟨h, g, d, t, os⟩ :=
  wpAny_codeAt_hit hcode (C.code (D.at i _ _ hi) ht) hf x
end
end
section
theorem k_read {base g : Heap} {L : Addr} {m : Str → Option Value} {env : Env} {s : Shared} {Q : Value → Shared → Prop} {E : Value → Shared → Prop} {rest : List (Addr × Obj)}
    {st dst : Addr} {k1 k2 k3 t0 t1 t2 tk : Tok} {l : List Nat} {pos : Nat}
    (B : Below (ar dp un gd outs) base outs g) (F : Fr g L s.heap m) (N : News g L s.heap ((st, instObj 587 dst) :: (dst, sioD w.params k1 k2 k3 t0 t1 t2 (tx l) pos) :: rest)) (X : (pre.heap_1 w.params).In base) (TT : Top p loose mean mg mb base)
    (hf : env.frame = some L) (hk : env.scope.kind = .function) (hne : @Ne Nat st dst) (hdp : dp + 6 < recursionLimit) (hu : un + 43 < cLine) (hl : pos ≤ l.length) (hT : l.length < 1000000) (ap : ∀ x ∈ rest, x.1 ≠ st ∧ x.1 ≠ dst)
    (q : ∀ t t2' h' tk', Fr g L h' m → News g L h' ((st, instObj 587 dst) :: (dst, sioD w.params k1 k2 k3 t0 t1 t2' (tx l) (((pos + ((l.drop pos).take 1).length : Nat) : Int))) :: rest) → Q (.str (tx ((l.drop pos).take 1)) t) { s with heap := h', toks := tk' }) :
    wpAny (model PG w) ((ar dp un gd outs).deeper env) (call (.ref 533) [.ref st, .int 1 tk]) Q E s :=
  call_by fun R ok _ => c_read (dp := dp + 1) (un := un + 3) (outs := env :: outs) (pushX B F hf hk) X TT (free_of B F N hf fun _ h => List.mem_append_left rest h) hne (by omega) (by omega) hl hT fun t t2' h' tk' k a b =>
    ok _ _ (q t t2' h' tk' (back2 F N ap k a b).1 (back2 F N ap k a b).2)
theorem k_readline {base g : Heap} {L : Addr} {m : Str → Option Value} {env : Env} {s : Shared} {Q : Value → Shared → Prop} {E : Value → Shared → Prop} {rest : List (Addr × Obj)}
    {st dst : Addr} {k1 k2 k3 t0 t1 t2 : Tok} {l : List Nat} {pos : Nat}
    (B : Below (ar dp un gd outs) base outs g) (F : Fr g L s.heap m) (N : News g L s.heap ((st, instObj 587 dst) :: (dst, sioD w.params k1 k2 k3 t0 t1 t2 (tx l) pos) :: rest)) (X : (pre.heap_1 w.params).In base) (TT : Top p loose mean mg mb base)
    (hf : env.frame = some L) (hk : env.scope.kind = .function) (hne : @Ne Nat st dst) (hdp : dp + 6 < recursionLimit) (hu : un + 43 < cLine) (hl : pos ≤ l.length) (hT : l.length < 1000000) (ap : ∀ x ∈ rest, x.1 ≠ st ∧ x.1 ≠ dst)
    (q : ∀ r t2' h' tk' (qq : Nat), pos ≤ qq → qq ≤ l.length → l.drop qq = skipLine' (l.drop pos) → Fr g L h' m → News g L h' ((st, instObj 587 dst) :: (dst, sioD w.params k1 k2 k3 t0 t1 t2' (tx l) (qq : Int)) :: rest) → Q r { s with heap := h', toks := tk' }) :
    wpAny (model PG w) ((ar dp un gd outs).deeper env) (call (.ref 541) [.ref st]) Q E s :=
  call_by fun R ok _ => c_readline (dp := dp + 1) (un := un + 3) (outs := env :: outs) (pushX B F hf hk) X TT (free_of B F N hf fun _ h => List.mem_append_left rest h) hne (by omega) (by omega) hl hT fun r t2' h' tk' k a ⟨qq, q1, q2, q3, b⟩ =>
    ok _ _ (q r t2' h' tk' qq q1 q2 q3 (back2 F N ap k a b).1 (back2 F N ap k a b).2)
theorem k_read_eof {base g : Heap} {L : Addr} {m : Str → Option Value} {env : Env} {s : Shared} {Q : Value → Shared → Prop} {E : Value → Shared → Prop} {rest : List (Addr × Obj)}
    {st dst : Addr} {k1 k2 k3 t0 t1 t2 tk : Tok} {l : List Nat} {pos : Nat}
    (B : Below (ar dp un gd outs) base outs g) (F : Fr g L s.heap m) (N : News g L s.heap ((st, instObj 587 dst) :: (dst, sioD w.params k1 k2 k3 t0 t1 t2 (tx l) pos) :: rest)) (X : (pre.heap_1 w.params).In base) (TT : Top p loose mean mg mb base)
    (hf : env.frame = some L) (hk : env.scope.kind = .function) (hne : @Ne Nat st dst) (hdp : dp + 6 < recursionLimit) (hu : un + 43 < cLine) (hl : pos ≤ l.length) (hT : l.length < 1000000) (ap : ∀ x ∈ rest, x.1 ≠ st ∧ x.1 ≠ dst)
    (hcs : l.drop pos = [])
    (q : ∀ t t2' h' tk', Fr g L h' m → News g L h' ((st, instObj 587 dst) :: (dst, sioD w.params k1 k2 k3 t0 t1 t2' (tx l) pos) :: rest) → Q (.str (Str.ofString "") t) { s with heap := h', toks := tk' }) :
    wpAny (model PG w) ((ar dp un gd outs).deeper env) (call (.ref 533) [.ref st, .int 1 tk]) Q E s :=
  k_read B F N X TT hf hk hne hdp hu hl hT ap fun t t2' h' tk' F' N' => by
    rw [hcs] at N' ⊢
    have e : tx (List.take 1 []) = Str.ofString "" := by decide +kernel
    rw [e]
    exact q t t2' h' tk' F' N'
theorem k_read_chr {base g : Heap} {L : Addr} {m : Str → Option Value} {env : Env} {s : Shared} {Q : Value → Shared → Prop} {E : Value → Shared → Prop} {rest : List (Addr × Obj)}
    {st dst : Addr} {k1 k2 k3 t0 t1 t2 tk : Tok} {l : List Nat} {pos : Nat} {c : Nat} {r : List Nat}
    (B : Below (ar dp un gd outs) base outs g) (F : Fr g L s.heap m) (N : News g L s.heap ((st, instObj 587 dst) :: (dst, sioD w.params k1 k2 k3 t0 t1 t2 (tx l) pos) :: rest)) (X : (pre.heap_1 w.params).In base) (TT : Top p loose mean mg mb base)
    (hf : env.frame = some L) (hk : env.scope.kind = .function) (hne : @Ne Nat st dst) (hdp : dp + 6 < recursionLimit) (hu : un + 43 < cLine) (hl : pos ≤ l.length) (hT : l.length < 1000000) (ap : ∀ x ∈ rest, x.1 ≠ st ∧ x.1 ≠ dst)
    (hcs : l.drop pos = c :: r)
    (q : ∀ t t2' h' tk', Fr g L h' m → News g L h' ((st, instObj 587 dst) :: (dst, sioD w.params k1 k2 k3 t0 t1 t2' (tx l) ((pos + 1 : Nat) : Int)) :: rest) → Q (.str (tx [c]) t) { s with heap := h', toks := tk' }) :
    wpAny (model PG w) ((ar dp un gd outs).deeper env) (call (.ref 533) [.ref st, .int 1 tk]) Q E s :=
  k_read B F N X TT hf hk hne hdp hu hl hT ap fun t t2' h' tk' F' N' => by
    rw [hcs] at N' ⊢
    exact q t t2' h' tk' F' N'
end
section
noncomputable def widest (h : Heap) (outs : List Env) (as : List Addr) : Heap := hideAll h (as ++ outs.filterMap (·.frame))
theorem widest_in {h : Heap} {outs : List Env} {as : List Addr} {b : Addr} {o : Obj} (e : h.get? b = some o) (n : b ∉ as) (nf : ∀ env ∈ outs, env.frame ≠ some b) : (widest h outs as).get? b = some o :=
  hideAll_get _ e fun q => by
    rcases List.mem_append.mp q with q | q
    · exact n q
    · obtain ⟨env, he, hf⟩ := List.mem_filterMap.mp q
      exact nf env he hf
theorem base_widest {dp un : Nat} {gd : Option (List Code)} {outs : List Env} {base h : Heap} {pre : List (Addr × Obj)} (B : Below (ar dp un gd outs) base outs h) (V : Free base outs h pre) : base.StaysIn (widest h outs (pre.map (·.1))) :=
  fun b o e => widest_in (B.stays b o e) (fun q => by
      obtain ⟨x, hx, e'⟩ := List.mem_map.mp q
      have := (V x hx).2.1
      rw [show x.1 = b from e', e] at this; cases this) (fun env he hf => by
      obtain ⟨L₁, o₁, hf₁, ho₁⟩ := funFrames_in B.frames env he
      rw [hf] at hf₁
      cases hf₁
      have := (B.frames.mem (List.mem_filterMap.mpr ⟨env, he, hf⟩)).1
      rw [e] at this; cases this)
theorem below_widest {dp un : Nat} {gd : Option (List Code)} {outs : List Env} {base h : Heap} {as : List Addr} (B : Below (ar dp un gd outs) base outs h) : Below (ar dp un gd outs) (widest h outs as) outs h :=
  ⟨rfl, fun b o q => of_hideAll _ q, funFrames_hide B.frames fun env he a hf => List.mem_append_right _ (List.mem_filterMap.mpr ⟨env, he, hf⟩)⟩
theorem free_widest {outs : List Env} {base h : Heap} {pre : List (Addr × Obj)} (V : Free base outs h pre) : Free (widest h outs (pre.map (·.1))) outs h pre :=
  fun x hx => ⟨(V x hx).1, hideAll_none _ (List.mem_append_left _ (List.mem_map_of_mem hx)), (V x hx).2.2⟩
noncomputable def Refused (base : Heap) (outs : List Env) (h : Heap) (as : List Addr) (e : Addr) (h' : Heap) : Prop :=
  RaisedN base outs e (.type "ValueError") [] h' ∧ (hideAll h as).UpToSlots h'
theorem refused_of {base g h h' : Heap} {outs : List Env} {as : List Addr} {e : Addr} {news : List (Addr × Obj)} (k : Kept as h g) (R : RaisedN base outs e (.type "ValueError") news h') (U : g.UpToSlots h') : Refused base outs h as e h' := by
  obtain ⟨Bm, a0, h1, _, h2⟩ := R
  refine ⟨⟨Bm, a0, h1, fun _ q => absurd q List.not_mem_nil, h2⟩, (Heap.UpToSlots.of_keeps fun b o q => k b o (of_hideAll _ q) fun hm => ?_).trans U⟩
  rw [hideAll_none _ hm] at q; cases q
theorem refused_back {dp un : Nat} {gd : Option (List Code)} {outs : List Env} {base g h h' : Heap} {L e : Addr} {m : Str → Option Value} {env : Env} {pre rest : List (Addr × Obj)} (B : Below (ar dp un gd outs) base outs g) (F : Fr g L h m) (N : News g L h (pre ++ rest))
    (hf : env.frame = some L) (hr : ∀ x ∈ rest, x.1 ∉ pre.map (·.1)) (X : Refused (widest h (env :: outs) (pre.map (·.1))) (env :: outs) h (pre.map (·.1)) e h') :
    ∃ h₂, Fr g L h₂ m ∧ RaisedN base (env :: outs) e (.type "ValueError") rest h' ∧ h₂.UpToSlots h' := by
  have V : Free base (env :: outs) h pre := free_of B F N hf fun x hx => List.mem_append_left _ hx
  have Vr : Free base (env :: outs) h rest := free_of B F N hf fun x hx => List.mem_append_right _ hx
  obtain ⟨⟨Bm, a0, h1, _, h2⟩, U⟩ := X
  have ng : ∀ b o, g.get? b = some o → b ∉ pre.map (·.1) := fun b o e q => by
    obtain ⟨x, hx, e'⟩ := List.mem_map.mp q
    have := (N x (List.mem_append_left _ hx)).2.2
    rw [show x.1 = b from e', e] at this; cases this
  have nf : ∀ b o, base.get? b = some o → ∀ e' ∈ (env :: outs), e'.frame ≠ some b := fun b o q e' he hfe => by
    rcases List.mem_cons.mp he with rfl | he
    · rw [hf] at hfe
      cases hfe
      obtain ⟨oL, _, _, hL, _⟩ := F.ns
      have hg := B.stays _ _ q
      exact absurd (Nat.lt_of_lt_of_le (Heap.lt_size hg) F.above) (Nat.lt_irrefl _)
    · have := (B.frames.mem (List.mem_filterMap.mpr ⟨e', he, hfe⟩)).1
      rw [q] at this; cases this
  refine ⟨hideAll h (pre.map (·.1)), ⟨?_, fun b o q => hideAll_get _ (F.keep b o q) (ng b o q), ?_⟩, ⟨Bm, a0, fun b o q => h1 b o (widest_in (F.keep b o (B.stays b o q)) (ng b o (B.stays b o q)) (nf b o q)), fun x hx => ⟨h1 _ _ (widest_in (Vr x hx).1 (hr x hx) (Vr x hx).2.2), (Vr x hx).2.1⟩, h2⟩, U⟩
  · obtain ⟨oL, es, ep, hL, r⟩ := F.ns
    refine ⟨oL, es, ep, hideAll_get _ hL fun q => ?_, r⟩
    obtain ⟨x, hx, e'⟩ := List.mem_map.mp q
    exact (N x (List.mem_append_left _ hx)).2.1 e'
  · exact F.above
end
section
noncomputable def Rds (cs : List Nat) (st : Option Nat) (q : Bool) (e : Nat) (t : List Nat) (o : Out) : Prop := ∀ n, cs.length < n → rd n cs st q e t = o
theorem rd_irrel : ∀ (n m : Nat) (cs : List Nat) (st : Option Nat) (q : Bool) (e : Nat) (t : List Nat), cs.length < n → cs.length < m → rd n cs st q e t = rd m cs st q e t
  | 0, _, _, _, _, _, _, h, _ => absurd h (Nat.not_lt_zero _)
  | _ + 1, 0, _, _, _, _, _, _, h => absurd h (Nat.not_lt_zero _)
  | n + 1, m + 1, cs, none, q, e, t, _, _ => by simp only [rd]
  | n + 1, m + 1, [], some s, q, e, t, _, _ => by simp only [rd]
  | n + 1, m + 1, c :: r, some s, q, e, t, h1, h2 => by
    have a : r.length < n := Nat.lt_of_succ_lt_succ h1
    have b : r.length < m := Nat.lt_of_succ_lt_succ h2
    have i : ∀ st q e t, rd n r st q e t = rd m r st q e t := fun st q e t => rd_irrel n m r st q e t a b
    have k := skipLine_le r
    have j : ∀ st q e t, rd n (skipLine r) st q e t = rd m (skipLine r) st q e t := fun st q e t => rd_irrel n m (skipLine r) st q e t (Nat.lt_of_le_of_lt k a) (Nat.lt_of_le_of_lt k b)
    simp only [rd, i, j]
theorem skip_same : ∀ l, skipLine' l = skipLine l
  | [] => rfl
  | c :: r => by unfold skipLine' skipLine; rw [skip_same r]
noncomputable abbrev StOk (x : Nat) : Prop := ∀ c, some x = some c → c = 32 ∨ c = 39 ∨ c = 34 ∨ c = 92 ∨ c = 97
section
variable {s c e : Nat} {r t : List Nat} {q : Bool} {o : Out}
theorem rds_next (hr : Rds (c :: r) (some s) q e t o) (n : Nat) (hn : r.length < n) : rd (n + 1) (c :: r) (some s) q e t = o := hr (n + 1) (Nat.succ_lt_succ hn)
theorem om_w {a b : Nat} : a < b + a + 1 := Nat.lt_succ_of_le (Nat.le_add_left a b)
theorem om_w2 {a b n : Nat} (h : b < n) : a < n + a := Nat.lt_add_of_pos_left (Nat.lt_of_le_of_lt (Nat.zero_le b) h)
theorem w0 (hr : Rds (c :: r) (some s) q e t o) (h0 : (s == 32) = true) (h1 : isWs c = true) (h2 : t.isEmpty = true) (h3 : q = true) : o = .tok t q (some s) r := by
  have hs : s = 32 := by simpa using h0
  subst hs
  subst h3
  have := rds_next hr ((skipLine r).length + r.length + 1) om_w
  simp only [rd] at this
  simp [h0, h1, h2] at this
  exact this.symm
theorem w1 (hr : Rds (c :: r) (some s) q e t o) (h0 : (s == 32) = true) (h1 : isWs c = true) (h2 : t.isEmpty = true) (h3 : q = false) : Rds r (some s) q e t o := by
  subst h3
  have hs : s = 32 := by simpa using h0
  subst hs
  intro n hn
  have hn' : (skipLine r).length ≤ r.length := skipLine_le r
  have := rds_next hr n hn
  simp only [rd] at this
  simp [h0, h1, h2] at this
  simpa using this
theorem w2 (hr : Rds (c :: r) (some s) q e t o) (h0 : (s == 32) = true) (h1 : isWs c = true) (h2 : t.isEmpty = false) : o = .tok t q (some s) r := by
  have hs : s = 32 := by simpa using h0
  subst hs
  have := rds_next hr ((skipLine r).length + r.length + 1) om_w
  simp only [rd] at this
  simp [h0, h1, h2] at this
  exact this.symm
theorem w3 (hr : Rds (c :: r) (some s) q e t o) (h0 : (s == 32) = true) (h1 : isWs c = false) (h2 : (c == 35) = true) : Rds (skipLine r) (some s) q e t o := by
  have hs : s = 32 := by simpa using h0
  subst hs
  intro n hn
  have hn' : (skipLine r).length ≤ r.length := skipLine_le r
  have := rds_next hr (n + r.length) (om_w2 hn)
  simp only [rd] at this
  have ir := fun q e t => rd_irrel (n + r.length) n (skipLine r) (some 32) q e t (Nat.lt_of_lt_of_le hn (Nat.le_add_right _ _)) hn
  simp only [ir] at this
  simp [h0, h1, h2] at this
  simpa using this
theorem w4 (hr : Rds (c :: r) (some s) q e t o) (h0 : (s == 32) = true) (h1 : isWs c = false) (h2 : (c == 35) = false) (h3 : (c == 92) = true) : Rds r (some c) q 97 t o := by
  have hc : c = 92 := by simpa using h3
  subst hc
  intro n hn
  have hn' : (skipLine r).length ≤ r.length := skipLine_le r
  have := rds_next hr n hn
  simp only [rd] at this
  simp [h0, h1, h2, h3] at this
  simpa using this
theorem w5 (hr : Rds (c :: r) (some s) q e t o) (h0 : (s == 32) = true) (h1 : isWs c = false) (h2 : (c == 35) = false) (h3 : (c == 92) = false) (h4 : (c == 39 || c == 34) = false) : Rds r (some 97) q e [c] o := by
  intro n hn
  have hn' : (skipLine r).length ≤ r.length := skipLine_le r
  have := rds_next hr n hn
  simp only [rd] at this
  simp [h0, h1, h2, h3, h4] at this
  simpa using this
theorem w6 (hr : Rds (c :: r) (some s) q e t o) (h0 : (s == 32) = true) (h1 : isWs c = false) (h2 : (c == 35) = false) (h3 : (c == 92) = false) (h4 : (c == 39 || c == 34) = true) : Rds r (some c) q e t o := by
  intro n hn
  have hn' : (skipLine r).length ≤ r.length := skipLine_le r
  have := rds_next hr n hn
  simp only [rd] at this
  simp [h0, h1, h2, h3, h4] at this
  simpa using this
theorem w8 (hr : Rds (c :: r) (some s) q e t o) (h0 : (s == 32) = false) (h1 : (s == 39 || s == 34) = true) (h2 : (c == s) = true) : Rds r (some 97) true e t o := by
  intro n hn
  have hn' : (skipLine r).length ≤ r.length := skipLine_le r
  have := rds_next hr n hn
  simp only [rd] at this
  simp [h0, h1, h2] at this
  simpa using this
theorem w9 (hr : Rds (c :: r) (some s) q e t o) (h0 : (s == 32) = false) (h1 : (s == 39 || s == 34) = true) (h2 : (c == s) = false) (h3 : (c == 92) = true) (h4 : (s == 34) = true) : Rds r (some c) true s t o := by
  have hc : c = 92 := by simpa using h3
  subst hc
  intro n hn
  have hn' : (skipLine r).length ≤ r.length := skipLine_le r
  have := rds_next hr n hn
  simp only [rd] at this
  simp [h0, h1, h2, h3, h4] at this
  simpa using this
theorem w10 (hr : Rds (c :: r) (some s) q e t o) (h0 : (s == 32) = false) (h1 : (s == 39 || s == 34) = true) (h2 : (c == s) = false) (h3 : (c == 92) = true) (h4 : (s == 34) = false) : Rds r (some s) true e (t ++ [c]) o := by
  have hs : s = 39 := by simp at h1 h4; exact h1.resolve_right h4
  subst hs
  intro n hn
  have hn' : (skipLine r).length ≤ r.length := skipLine_le r
  have := rds_next hr n hn
  simp only [rd] at this
  simp [h0, h1, h2, h3, h4] at this
  simpa using this
theorem w11 (hr : Rds (c :: r) (some s) q e t o) (h0 : (s == 32) = false) (h1 : (s == 39 || s == 34) = true) (h2 : (c == s) = false) (h3 : (c == 92) = false) : Rds r (some s) true e (t ++ [c]) o := by
  intro n hn
  have hn' : (skipLine r).length ≤ r.length := skipLine_le r
  have := rds_next hr n hn
  simp only [rd] at this
  simp [h0, h1, h2, h3] at this
  simpa using this
theorem w12 (hr : Rds (c :: r) (some s) q e t o) (h0 : (s == 32) = false) (h1 : (s == 39 || s == 34) = false) (h2 : (s == 92) = true) (h3 : (e == 39 || e == 34) = true) (h4 : (c != s) = true) (h5 : (c != e) = true) : Rds r (some e) q e (t ++ [s] ++ [c]) o := by
  have hs : s = 92 := by simpa using h2
  subst hs
  intro n hn
  have hn' : (skipLine r).length ≤ r.length := skipLine_le r
  have := rds_next hr n hn
  simp only [rd] at this
  simp [h0, h1, h2, h3, h4, h5] at this
  simpa using this
theorem w13 (hr : Rds (c :: r) (some s) q e t o) (h0 : (s == 32) = false) (h1 : (s == 39 || s == 34) = false) (h2 : (s == 92) = true) (h3 : (e == 39 || e == 34) = true) (h4 : (c != s) = true) (h5 : (c != e) = false) : Rds r (some e) q e (t ++ [c]) o := by
  intro n hn
  have hn' : (skipLine r).length ≤ r.length := skipLine_le r
  have := rds_next hr n hn
  simp only [rd] at this
  simp [h0, h1, h2, h3, h4, h5] at this
  simpa using this
theorem w14 (hr : Rds (c :: r) (some s) q e t o) (h0 : (s == 32) = false) (h1 : (s == 39 || s == 34) = false) (h2 : (s == 92) = true) (h3 : (e == 39 || e == 34) = true) (h4 : (c != s) = false) : Rds r (some e) q e (t ++ [c]) o := by
  have hs : s = 92 := by simpa using h2
  subst hs
  intro n hn
  have hn' : (skipLine r).length ≤ r.length := skipLine_le r
  have := rds_next hr n hn
  simp only [rd] at this
  simp [h0, h1, h2, h3, h4] at this
  simpa using this
theorem w15 (hr : Rds (c :: r) (some s) q e t o) (h0 : (s == 32) = false) (h1 : (s == 39 || s == 34) = false) (h2 : (s == 92) = true) (h3 : (e == 39 || e == 34) = false) : Rds r (some e) q e (t ++ [c]) o := by
  intro n hn
  have hn' : (skipLine r).length ≤ r.length := skipLine_le r
  have := rds_next hr n hn
  simp only [rd] at this
  simp [h0, h1, h2, h3] at this
  simpa using this
theorem w16 (hr : Rds (c :: r) (some s) q e t o) (h0 : (s == 32) = false) (h1 : (s == 39 || s == 34) = false) (h2 : (s == 92) = false) (h3 : isWs c = true) (h4 : t.isEmpty = true) (h5 : q = true) : o = .tok t q (some 32) r := by
  subst h5
  have := rds_next hr ((skipLine r).length + r.length + 1) om_w
  simp only [rd] at this
  simp [h0, h1, h2, h3, h4] at this
  exact this.symm
theorem w17 (hr : Rds (c :: r) (some s) q e t o) (h0 : (s == 32) = false) (h1 : (s == 39 || s == 34) = false) (h2 : (s == 92) = false) (h3 : isWs c = true) (h4 : t.isEmpty = true) (h5 : q = false) : Rds r (some 32) q e t o := by
  subst h5
  intro n hn
  have hn' : (skipLine r).length ≤ r.length := skipLine_le r
  have := rds_next hr n hn
  simp only [rd] at this
  simp [h0, h1, h2, h3, h4] at this
  simpa using this
theorem w18 (hr : Rds (c :: r) (some s) q e t o) (h0 : (s == 32) = false) (h1 : (s == 39 || s == 34) = false) (h2 : (s == 92) = false) (h3 : isWs c = true) (h4 : t.isEmpty = false) : o = .tok t q (some 32) r := by
  have := rds_next hr ((skipLine r).length + r.length + 1) om_w
  simp only [rd] at this
  simp [h0, h1, h2, h3, h4] at this
  exact this.symm
theorem w19a (hr : Rds (c :: r) (some s) q e t o) (h0 : (s == 32) = false) (h1 : (s == 39 || s == 34) = false) (h2 : (s == 92) = false) (h3 : isWs c = false) (h4 : (c == 35) = true) (h5 : t.isEmpty = true) (h6 : q = true) : o = .tok t q (some 32) (skipLine r) := by
  subst h6
  have := rds_next hr ((skipLine r).length + r.length + 1) om_w
  simp only [rd] at this
  simp [h0, h1, h2, h3, h4, h5] at this
  exact this.symm
theorem w19b (hr : Rds (c :: r) (some s) q e t o) (h0 : (s == 32) = false) (h1 : (s == 39 || s == 34) = false) (h2 : (s == 92) = false) (h3 : isWs c = false) (h4 : (c == 35) = true) (h5 : t.isEmpty = true) (h6 : q = false) : Rds (skipLine r) (some 32) q e t o := by
  subst h6
  intro n hn
  have hn' : (skipLine r).length ≤ r.length := skipLine_le r
  have := rds_next hr (n + r.length) (om_w2 hn)
  simp only [rd] at this
  have ir := fun q e t => rd_irrel (n + r.length) n (skipLine r) (some 32) q e t (Nat.lt_of_lt_of_le hn (Nat.le_add_right _ _)) hn
  simp only [ir] at this
  simp [h0, h1, h2, h3, h4, h5] at this
  simpa using this
theorem w19c (hr : Rds (c :: r) (some s) q e t o) (h0 : (s == 32) = false) (h1 : (s == 39 || s == 34) = false) (h2 : (s == 92) = false) (h3 : isWs c = false) (h4 : (c == 35) = true) (h5 : t.isEmpty = false) : o = .tok t q (some 32) (skipLine r) := by
  have := rds_next hr ((skipLine r).length + r.length + 1) om_w
  simp only [rd] at this
  simp [h0, h1, h2, h3, h4, h5] at this
  exact this.symm
theorem w20 (hr : Rds (c :: r) (some s) q e t o) (h0 : (s == 32) = false) (h1 : (s == 39 || s == 34) = false) (h2 : (s == 92) = false) (h3 : isWs c = false) (h4 : (c == 35) = false) (h5 : (c == 39 || c == 34) = true) : Rds r (some c) q e t o := by
  intro n hn
  have hn' : (skipLine r).length ≤ r.length := skipLine_le r
  have := rds_next hr n hn
  simp only [rd] at this
  simp [h0, h1, h2, h3, h4, h5] at this
  simpa using this
theorem w21 (hr : Rds (c :: r) (some s) q e t o) (h0 : (s == 32) = false) (h1 : (s == 39 || s == 34) = false) (h2 : (s == 92) = false) (h3 : isWs c = false) (h4 : (c == 35) = false) (h5 : (c == 39 || c == 34) = false) (h6 : (c == 92) = true) : Rds r (some c) q 97 t o := by
  have hc : c = 92 := by simpa using h6
  subst hc
  intro n hn
  have hn' : (skipLine r).length ≤ r.length := skipLine_le r
  have := rds_next hr n hn
  simp only [rd] at this
  simp [h0, h1, h2, h3, h4, h5, h6] at this
  simpa using this
theorem w22 (hr : Rds (c :: r) (some s) q e t o) (hs : StOk s) (h0 : (s == 32) = false) (h1 : (s == 39 || s == 34) = false) (h2 : (s == 92) = false) (h3 : isWs c = false) (h4 : (c == 35) = false) (h5 : (c == 39 || c == 34) = false) (h6 : (c == 92) = false) : Rds r (some s) q e (t ++ [c]) o := by
  have hs : s = 97 := by
    rcases hs s rfl with h | h | h | h | h
    · rw [h] at h0; cases h0
    · rw [h] at h1; cases h1
    · rw [h] at h1; cases h1
    · rw [h] at h2; cases h2
    · exact h
  subst hs
  intro n hn
  have hn' : (skipLine r).length ≤ r.length := skipLine_le r
  have := rds_next hr n hn
  simp only [rd] at this
  simp [h0, h1, h2, h3, h4, h5, h6] at this
  simpa using this
theorem w3' {r' : List Nat} (hr : Rds (c :: r) (some s) q e t o) (hq : r' = skipLine' r) (h0 : (s == 32) = true) (h1 : isWs c = false) (h2 : (c == 35) = true) : Rds r' (some s) q e t o := by
  rw [hq, skip_same]; exact w3 hr h0 h1 h2
theorem w19a' {r' : List Nat} (hr : Rds (c :: r) (some s) q e t o) (hq : r' = skipLine' r) (h0 : (s == 32) = false) (h1 : (s == 39 || s == 34) = false) (h2 : (s == 92) = false) (h3 : isWs c = false) (h4 : (c == 35) = true) (h5 : t.isEmpty = true) (h6 : q = true) : o = .tok t q (some 32) r' := by
  rw [hq, skip_same]; exact w19a hr h0 h1 h2 h3 h4 h5 h6
theorem w19b' {r' : List Nat} (hr : Rds (c :: r) (some s) q e t o) (hq : r' = skipLine' r) (h0 : (s == 32) = false) (h1 : (s == 39 || s == 34) = false) (h2 : (s == 92) = false) (h3 : isWs c = false) (h4 : (c == 35) = true) (h5 : t.isEmpty = true) (h6 : q = false) : Rds r' (some 32) q e t o := by
  rw [hq, skip_same]; exact w19b hr h0 h1 h2 h3 h4 h5 h6
theorem w19c' {r' : List Nat} (hr : Rds (c :: r) (some s) q e t o) (hq : r' = skipLine' r) (h0 : (s == 32) = false) (h1 : (s == 39 || s == 34) = false) (h2 : (s == 92) = false) (h3 : isWs c = false) (h4 : (c == 35) = true) (h5 : t.isEmpty = false) : o = .tok t q (some 32) r' := by
  rw [hq, skip_same]; exact w19c hr h0 h1 h2 h3 h4 h5
end
inductive RtJ (P : Params) (st dst lx dlx pb fs : Addr) (k1 k2 k3 t0 t1 : Tok) (l : List Nat) (k v : Nat → Tok) (WC : Str) (o : Out) (n : Nat) (m : Str → Option Value) (news : List (Addr × Obj)) : Prop
  | mk (pos : Nat) (t2 : Tok) (state : Option Nat) (ts : Tok) (ln : Int) (tl : Tok) (tok : List Nat) (tt : Tok) (q : Bool) (e : Nat) (te : Tok) (u : Str → Option Value) (p0 : n = l.length - pos) (p1 : pos ≤ l.length) (p2 : tok.length ≤ 2 * pos) (p3 : news = [(st, instObj 587 dst), (dst, sioD P k1 k2 k3 t0 t1 t2 (tx l) pos), (lx, instObj 722 dlx), (dlx, lexD P k v WC st pb fs (stV state ts) ln tl (tx tok) tt)]) (p4 : m = (fun y => if y = Str.ofString "self" then some (.ref lx) else if y = Str.ofString "quoted" then some (.bool q) else if y = Str.ofString "escapedstate" then some (.str (tx [e]) te) else u y)) (p5 : (state = none → l.drop pos = [])) (p6 : (∀ c, state = some c → c = 32 ∨ c = 39 ∨ c = 34 ∨ c = 92 ∨ c = 97)) (p7 : (e = 32 ∨ e = 97 ∨ e = 34)) (p8 : Rds (l.drop pos) state q e tok o) : RtJ P st dst lx dlx pb fs k1 k2 k3 t0 t1 l k v WC o n m news
inductive RtMid (P : Params) (st dst lx dlx pb fs : Addr) (k1 k2 k3 t0 t1 : Tok) (l : List Nat) (k v : Nat → Tok) (WC : Str) (o : Out) (g : Heap) (L : Addr) (s : Shared) (f : Flow) (s' : Shared) : Prop
  | mk (hf : f = .next) (pos : Nat) (t2 : Tok) (state : Option Nat) (ts : Tok) (ln : Int) (tl : Tok) (tok : List Nat) (tt : Tok) (q : Bool) (u : Str → Option Value) (h' : Heap) (tk' : Nat) (p0 : s' = { s with heap := h', toks := tk' }) (p1 : pos ≤ l.length) (p2 : tok.length ≤ 2 * pos) (p3 : o = .tok tok q state (l.drop pos)) (p4 : News g L h' [(st, instObj 587 dst), (dst, sioD P k1 k2 k3 t0 t1 t2 (tx l) pos), (lx, instObj 722 dlx), (dlx, lexD P k v WC st pb fs (stV state ts) ln tl (tx tok) tt)]) (p5 : Fr g L h' (fun y => if y = Str.ofString "self" then some (.ref lx) else if y = Str.ofString "quoted" then some (.bool q) else u y)) : RtMid P st dst lx dlx pb fs k1 k2 k3 t0 t1 l k v WC o g L s f s'
theorem RtMid.nx {P : Params} {st dst lx dlx pb fs : Addr} {k1 k2 k3 t0 t1 : Tok} {l : List Nat} {k v : Nat → Tok} {WC : Str} {o : Out} {g : Heap} {L : Addr} {s : Shared} {f : Flow} {s' : Shared} (h : RtMid P st dst lx dlx pb fs k1 k2 k3 t0 t1 l k v WC o g L s f s') : f = .next := by cases h; assumption
theorem rt_while {w : World} {A : Around} {E : Value → Shared → Prop} {Q : Flow → Shared → Prop} {s : Shared} {env : Env} {g : Heap} {L : Addr} {test : Expr} {body : List Stmt} {ps : Pos} {m : Str → Option Value} {news : List (Addr × Obj)}
    {st dst lx dlx pb fs : Addr} {k1 k2 k3 t0 t1 : Tok} {l : List Nat} {k v : Nat → Tok} {WC : Str} (o : Out) (n₀ : Nat)
    (F : Fr g L s.heap m) (N : News g L s.heap news) (hJ : RtJ w.params st dst lx dlx pb fs k1 k2 k3 t0 t1 l k v WC o n₀ m news)
    (turn : ∀ n m₁ news₁ h₁ tk₁, Fr g L h₁ m₁ → News g L h₁ news₁ → RtJ w.params st dst lx dlx pb fs k1 k2 k3 t0 t1 l k v WC o n m₁ news₁ →
      wpAny (model PG w) A (isTrue test env (eval test env)) (fun b s₂ =>
        if b = true then wpAny (model PG w) A (execs body env) (WhileStep2 g L s (RtJ w.params st dst lx dlx pb fs k1 k2 k3 t0 t1 l k v WC o) (RtMid w.params st dst lx dlx pb fs k1 k2 k3 t0 t1 l k v WC o g L s) n) E s₂ else RtMid w.params st dst lx dlx pb fs k1 k2 k3 t0 t1 l k v WC o g L s .next s₂) E { s with heap := h₁, toks := tk₁ })
    (after : ∀ s', RtMid w.params st dst lx dlx pb fs k1 k2 k3 t0 t1 l k v WC o g L s .next s' → Q .next s')
    (hE : PassesOwn (model PG w) A env E) :
    wpAny (model PG w) A (exec (.While test body [] ps) env) Q E s :=
  wpAny_mono (While_inv2 _ F N hJ turn hE) (fun f s' h => by have e := h.nx; subst e; exact after s' h) fun _ _ x => x
section
variable {P : Params} {s : Shared} {g h' : Heap} {L : Addr} {m' : Str → Option Value} {news' : List (Addr × Obj)} {st dst lx dlx pb fs : Addr} {k1 k2 k3 t0 t1 t2 : Tok} {l : List Nat} {k v : Nat → Tok} {WC : Str} {o : Out} {pos : Nat} {ln : Int} {tl tt : Tok} {q : Bool} {n tk' : Nat} {te : Tok}
theorem mid_intro (state : Option Nat) (ts : Tok) (tok : List Nat) (F : Fr g L h' m') (N : News g L h' news') (m1 : (st, instObj 587 dst) ∈ news') (m2 : (dst, sioD P k1 k2 k3 t0 t1 t2 (tx l) pos) ∈ news') (m3 : (lx, instObj 722 dlx) ∈ news')
    (m4 : (dlx, lexD P k v WC st pb fs (stV state ts) ln tl (tx tok) tt) ∈ news') (e1 : m' (Str.ofString "self") = some (.ref lx)) (e2 : m' (Str.ofString "quoted") = some (.bool q)) (hl : pos ≤ l.length) (htl : tok.length ≤ 2 * pos) (ho : o = .tok tok q state (l.drop pos)) :
    WhileStep2 g L s (RtJ P st dst lx dlx pb fs k1 k2 k3 t0 t1 l k v WC o) (RtMid P st dst lx dlx pb fs k1 k2 k3 t0 t1 l k v WC o g L s) n .brk { s with heap := h', toks := tk' } :=
  ⟨rfl, pos, t2, state, ts, ln, tl, tok, tt, q, m', h', tk', rfl, hl, htl, ho, List.forall_mem_cons.2 ⟨N _ m1, List.forall_mem_cons.2 ⟨N _ m2, List.forall_mem_cons.2 ⟨N _ m3, List.forall_mem_cons.2 ⟨N _ m4, List.forall_mem_nil _⟩⟩⟩⟩, by
    have e : (fun y => if y = Str.ofString "self" then some (.ref lx) else if y = Str.ofString "quoted" then some (.bool q) else m' y) = m' := by
      funext y
      by_cases h1 : y = Str.ofString "self"
      · rw [if_pos h1, h1, e1]
      · rw [if_neg h1]
        by_cases h2 : y = Str.ofString "quoted"
        · rw [if_pos h2, h2, e2]
        · rw [if_neg h2]
    rw [e]; exact F⟩
theorem step_intro (state : Option Nat) (ts : Tok) (tok : List Nat) (e : Nat) (f : Flow) (hf : f = .next ∨ f = .cont) (F : Fr g L h' m') (N : News g L h' news') (m1 : (st, instObj 587 dst) ∈ news') (m2 : (dst, sioD P k1 k2 k3 t0 t1 t2 (tx l) pos) ∈ news') (m3 : (lx, instObj 722 dlx) ∈ news')
    (m4 : (dlx, lexD P k v WC st pb fs (stV state ts) ln tl (tx tok) tt) ∈ news') (e1 : m' (Str.ofString "self") = some (.ref lx)) (e2 : m' (Str.ofString "quoted") = some (.bool q)) (e3 : m' (Str.ofString "escapedstate") = some (.str (tx [e]) te))
    (hl : pos ≤ l.length) (hn : l.length - pos < n) (htl : tok.length ≤ 2 * pos) (h0 : state ≠ none) (h1 : ∀ c, state = some c → c = 32 ∨ c = 39 ∨ c = 34 ∨ c = 92 ∨ c = 97) (he : e = 32 ∨ e = 97 ∨ e = 34) (ho : Rds (l.drop pos) state q e tok o) :
    WhileStep2 g L s (RtJ P st dst lx dlx pb fs k1 k2 k3 t0 t1 l k v WC o) (RtMid P st dst lx dlx pb fs k1 k2 k3 t0 t1 l k v WC o g L s) n f { s with heap := h', toks := tk' } := by
  have ex : ∃ h₁ tk m₂ news₂ n', { s with heap := h', toks := tk' } = { s with heap := h₁, toks := tk } ∧ Fr g L h₁ m₂ ∧ News g L h₁ news₂ ∧ n' < n ∧ RtJ P st dst lx dlx pb fs k1 k2 k3 t0 t1 l k v WC o n' m₂ news₂ := by
    refine ⟨h', tk', _, _, l.length - pos, rfl, ?_, ?_, hn, pos, t2, state, ts, ln, tl, tok, tt, q, e, te, m', rfl, hl, htl, rfl, rfl, fun x => absurd x h0, h1, he, ho⟩
    · have e : (fun y => if y = Str.ofString "self" then some (.ref lx) else if y = Str.ofString "quoted" then some (.bool q) else if y = Str.ofString "escapedstate" then some (.str (tx [e]) te) else m' y) = m' := by
        funext y
        by_cases h1 : y = Str.ofString "self"
        · rw [if_pos h1, h1, e1]
        · rw [if_neg h1]
          by_cases h2 : y = Str.ofString "quoted"
          · rw [if_pos h2, h2, e2]
          · rw [if_neg h2]
            by_cases h3 : y = Str.ofString "escapedstate"
            · rw [if_pos h3, h3, e3]
            · rw [if_neg h3]
      rw [e]; exact F
    · exact List.forall_mem_cons.2 ⟨N _ m1, List.forall_mem_cons.2 ⟨N _ m2, List.forall_mem_cons.2 ⟨N _ m3, List.forall_mem_cons.2 ⟨N _ m4, List.forall_mem_nil _⟩⟩⟩⟩
  rcases hf with rfl | rfl
  · exact ex
  · exact ex
end
noncomputable def LineMid (P : Params) (st dst lx dlx pb fs : Addr) (k1 k2 k3 t0 t1 t2 : Tok) (l : List Nat) (k v : Nat → Tok) (WC : Str) (pos : Int) (state : Value) (tok : Str) (tt : Tok) (g : Heap) (L : Addr) (m : Str → Option Value) (s : Shared) (f : Flow) (s' : Shared) : Prop :=
  f = .next ∧ ∃ (h' : Heap) (tk' : Nat) (ln : Int) (tl : Tok), s' = { s with heap := h', toks := tk' } ∧ Fr g L h' m ∧ News g L h' [(st, instObj 587 dst), (dst, sioD P k1 k2 k3 t0 t1 t2 (tx l) pos), (lx, instObj 722 dlx), (dlx, lexD P k v WC st pb fs state ln tl tok tt)]
theorem cut_line {M : Model} {A : Around} {P : Params} {E : Value → Shared → Prop} {Q : Flow → Shared → Prop} {s : Shared} {env : Env} {test : Expr} {body : List Stmt} {ps : Pos} {g : Heap} {L : Addr} {m : Str → Option Value}
    {st dst lx dlx pb fs : Addr} {k1 k2 k3 t0 t1 t2 : Tok} {l : List Nat} {k v : Nat → Tok} {WC : Str} {pos : Int} {state : Value} {tok : Str} {tt : Tok} {ln : Int} {tl : Tok}
    (F : Fr g L s.heap m) (N : News g L s.heap [(st, instObj 587 dst), (dst, sioD P k1 k2 k3 t0 t1 t2 (tx l) pos), (lx, instObj 722 dlx), (dlx, lexD P k v WC st pb fs state ln tl tok tt)])
    (h : wpAny M A (exec (.If test body [] ps) env) (LineMid P st dst lx dlx pb fs k1 k2 k3 t0 t1 t2 l k v WC pos state tok tt g L m s) E s)
    (go : ∀ h' tk' ln tl, Fr g L h' m → News g L h' [(st, instObj 587 dst), (dst, sioD P k1 k2 k3 t0 t1 t2 (tx l) pos), (lx, instObj 722 dlx), (dlx, lexD P k v WC st pb fs state ln tl tok tt)] → Q .next { s with heap := h', toks := tk' }) : wpAny M A (exec (.If test body [] ps) env) Q E s :=
  wpAny_mono h (fun f s' => by
    rintro ⟨rfl, h', tk', ln, tl, rfl, F, N⟩
    exact go h' tk' ln tl F N) fun _ _ x => x
theorem news_tail {g h : Heap} {L : Addr} {x : Addr × Obj} {rest : List (Addr × Obj)} (N : News g L h (x :: rest)) : News g L h rest := fun p hp => N p (.tail _ hp)
theorem stok {x : Nat} (h : x = 32 ∨ x = 39 ∨ x = 34 ∨ x = 92 ∨ x = 97) : StOk x := fun c e => by rw [← Option.some.inj e]; exact h
theorem stok_b {x : Nat} (h : (x == 92) = true) : StOk x := stok (.inr (.inr (.inr (.inl (beq_iff_eq.mp h)))))
theorem stok_q {x : Nat} (h : (x == 39 || x == 34) = true) : StOk x := stok ((Bool.or_eq_true_iff.mp h).elim (fun e => .inr (.inl (beq_iff_eq.mp e))) fun e => .inr (.inr (.inl (beq_iff_eq.mp e))))
theorem stok_e {x : Nat} (h : x = 32 ∨ x = 97 ∨ x = 34) : StOk x := stok (h.elim .inl fun h => h.elim (fun e => .inr (.inr (.inr (.inr e)))) fun e => .inr (.inr (.inl e)))
theorem stok_97 : StOk 97 := stok (.inr (.inr (.inr (.inr rfl))))
theorem stok_32 : StOk 32 := stok (.inl rfl)
theorem eok_34 {x : Nat} (h : (x == 34) = true) : x = 32 ∨ x = 97 ∨ x = 34 := .inr (.inr (by simpa using h))
theorem fin0 {cs t : List Nat} {q : Bool} {e : Nat} {o : Out} (hr : Rds cs none q e t o) (h : cs = []) : o = .tok [] q none cs := by
  subst h
  exact (hr 1 (Nat.lt_succ_self _)).symm
theorem fin1 {s : Nat} {t : List Nat} {q : Bool} {e : Nat} {o : Out} (hr : Rds [] (some s) q e t o) (h0 : (s == 32) = true) : o = .tok t q none [] := by
  have := hr 1 (Nat.lt_succ_self _)
  simp only [rd] at this
  simp [h0] at this
  exact this.symm
theorem fin2 {s : Nat} {t : List Nat} {q : Bool} {e : Nat} {o : Out} (hr : Rds [] (some s) q e t o) (h0 : (s == 32) = false) (h1 : (s == 39 || s == 34) = false) (h2 : (s == 92) = false) : o = .tok t q none [] := by
  have := hr 1 (Nat.lt_succ_self _)
  simp only [rd] at this
  simp [h0, h1, h2] at this
  exact this.symm
theorem fin3 {s : Nat} {t : List Nat} {q : Bool} {e : Nat} {o : Out} (hr : Rds [] (some s) q e t o) (h0 : (s == 32) = false) (h1 : (s == 39 || s == 34) = true) : o = .bad := by
  have := hr 1 (Nat.lt_succ_self _)
  simp only [rd] at this
  simp [h0, h1] at this
  exact this.symm
theorem fin4 {s : Nat} {t : List Nat} {q : Bool} {e : Nat} {o : Out} (hr : Rds [] (some s) q e t o) (h0 : (s == 32) = false) (h1 : (s == 39 || s == 34) = false) (h2 : (s == 92) = true) : o = .bad := by
  have := hr 1 (Nat.lt_succ_self _)
  simp only [rd] at this
  simp [h0, h1, h2] at this
  exact this.symm
section
variable {P : Params} {s : Shared} {g h' : Heap} {L : Addr} {m' : Str → Option Value} {news' : List (Addr × Obj)} {st dst lx dlx pb fs : Addr} {k1 k2 k3 t0 t1 t2 : Tok} {l : List Nat} {k v : Nat → Tok} {WC : Str} {o : Out} {pos : Nat} {ln : Int} {tl tt : Tok} {q : Bool} {n tk' : Nat} {te : Tok}
theorem mid_intro0 (state : Option Nat) (ts : Tok) (F : Fr g L h' m') (N : News g L h' news') (m1 : (st, instObj 587 dst) ∈ news') (m2 : (dst, sioD P k1 k2 k3 t0 t1 t2 (tx l) pos) ∈ news') (m3 : (lx, instObj 722 dlx) ∈ news')
    (m4 : (dlx, lexD P k v WC st pb fs (stV state ts) ln tl (Str.ofString "") tt) ∈ news') (e1 : m' (Str.ofString "self") = some (.ref lx)) (e2 : m' (Str.ofString "quoted") = some (.bool q)) (hl : pos ≤ l.length) (ho : o = .tok [] q state (l.drop pos)) :
    WhileStep2 g L s (RtJ P st dst lx dlx pb fs k1 k2 k3 t0 t1 l k v WC o) (RtMid P st dst lx dlx pb fs k1 k2 k3 t0 t1 l k v WC o g L s) n .brk { s with heap := h', toks := tk' } :=
  mid_intro state ts [] F N m1 m2 m3 (by
    have e : lexD P k v WC st pb fs (stV state ts) ln tl (tx []) tt = lexD P k v WC st pb fs (stV state ts) ln tl (Str.ofString "") tt := congrArg (fun x => lexD P k v WC st pb fs (stV state ts) ln tl x tt) lit_none.symm
    rw [e]; exact m4) e1 e2 hl (Nat.zero_le _) ho
theorem rtJ_intro (state : Option Nat) (ts : Tok) (e : Nat) (m1 : news' = [(st, instObj 587 dst), (dst, sioD P k1 k2 k3 t0 t1 t2 (tx l) pos), (lx, instObj 722 dlx), (dlx, lexD P k v WC st pb fs (stV state ts) ln tl (tx []) tt)])
    (e1 : m' (Str.ofString "self") = some (.ref lx)) (e2 : m' (Str.ofString "quoted") = some (.bool q)) (e3 : m' (Str.ofString "escapedstate") = some (.str (tx [e]) te))
    (hl : pos ≤ l.length) (h0 : (state = none ∧ l.drop pos = []) ∨ state = some 32) (he : e = 32 ∨ e = 97 ∨ e = 34) (ho : Rds (l.drop pos) state q e [] o) :
    RtJ P st dst lx dlx pb fs k1 k2 k3 t0 t1 l k v WC o (l.length - pos) m' news' := by
  refine ⟨pos, t2, state, ts, ln, tl, [], tt, q, e, te, m', rfl, hl, Nat.zero_le _, m1, ?_, ?_, ?_, he, ho⟩
  · funext y
    by_cases h1 : y = Str.ofString "self"
    · rw [if_pos h1, h1, e1]
    · rw [if_neg h1]
      by_cases h2 : y = Str.ofString "quoted"
      · rw [if_pos h2, h2, e2]
      · rw [if_neg h2]
        by_cases h3 : y = Str.ofString "escapedstate"
        · rw [if_pos h3, h3, e3]
        · rw [if_neg h3]
  · intro hn
    rcases h0 with h0 | h0
    · exact h0.2
    · rw [hn] at h0; cases h0
  · intro c hc
    rcases h0 with h0 | h0
    · rw [hc] at h0; cases h0.1
    · rw [hc] at h0; exact .inl (Option.some.inj h0)
end
theorem tok_some {t : List Nat} {q : Bool} (h : t.isEmpty = false ∨ q = true) : (!t.isEmpty || q) = true := by
  rcases h with h | h
  · rw [h]; rfl
  · rw [h]; simp
theorem lex0 {P : Params} {k v : Nat → Tok} {WC : Str} {st pb fs : Addr} {state : Value} {ln : Int} {tl tt : Tok} {h : Heap} {a : Addr} (e : h.get? a = some (lexD P k v WC st pb fs state ln tl (Str.ofString "") tt)) : h.get? a = some (lexD P k v WC st pb fs state ln tl (tx []) tt) :=
  e.trans (congrArg (fun x => some (lexD P k v WC st pb fs state ln tl x tt)) lit_none)
end
section
theorem rt_loop {w : World} {A : Around} {E : Value → Shared → Prop} {Q : Flow → Shared → Prop} {env : Env} {g hp : Heap} {L : Addr} {body : List Stmt} {ps ps1 : Pos} {kk : Nat} {m : Str → Option Value} {news : List (Addr × Obj)}
    {gs : Array GenState} {dr : Drawn} {tk : Nat} {os : OsState}
    {st dst lx dlx pb fs : Addr} {k1 k2 k3 t0 t1 : Tok} {l : List Nat} {k v : Nat → Tok} {WC : Str} (o : Out) (n₀ : Nat)
    (F : Fr g L hp m) (N : News g L hp news) (hJ : RtJ w.params st dst lx dlx pb fs k1 k2 k3 t0 t1 l k v WC o n₀ m news)
    (turn : ∀ q pos t2 state ts ln tl tok tt qq e te u h₁ tk₁, pos ≤ l.length → tok.length ≤ 2 * pos → (state = none → l.drop pos = []) → (∀ c, state = some c → c = 32 ∨ c = 39 ∨ c = 34 ∨ c = 92 ∨ c = 97) → (e = 32 ∨ e = 97 ∨ e = 34) → Rds (l.drop pos) state qq e tok o →
      (∀ f s', WhileStep2 g L ⟨hp, gs, dr, tk, os⟩ (RtJ w.params st dst lx dlx pb fs k1 k2 k3 t0 t1 l k v WC o) (RtMid w.params st dst lx dlx pb fs k1 k2 k3 t0 t1 l k v WC o g L ⟨hp, gs, dr, tk, os⟩) (l.length - pos) f s' → q f s') →
      Fr g L h₁ (updM (Str.ofString "self") (.ref lx) (updM (Str.ofString "quoted") (.bool qq) (updM (Str.ofString "escapedstate") (.str (tx [e]) te) u))) →
      News g L h₁ [(st, instObj 587 dst), (dst, sioD w.params k1 k2 k3 t0 t1 t2 (tx l) pos), (lx, instObj 722 dlx), (dlx, lexD w.params k v WC st pb fs (stV state ts) ln tl (tx tok) tt)] →
      wpAny (model PG w) A (execs body env) q E ⟨h₁, gs, dr, tk₁, os⟩)
    (after : ∀ pos t2 state ts ln tl tok tt qq u h' tk', pos ≤ l.length → tok.length ≤ 2 * pos → o = .tok tok qq state (l.drop pos) →
      News g L h' [(st, instObj 587 dst), (dst, sioD w.params k1 k2 k3 t0 t1 t2 (tx l) pos), (lx, instObj 722 dlx), (dlx, lexD w.params k v WC st pb fs (stV state ts) ln tl (tx tok) tt)] →
      Fr g L h' (updM (Str.ofString "self") (.ref lx) (updM (Str.ofString "quoted") (.bool qq) u)) → Q .next ⟨h', gs, dr, tk', os⟩)
    (hE : PassesOwn (model PG w) A env E) :
    wpAny (model PG w) A (exec (.While (.Constant (.bool true) kk ps1) body [] ps) env) Q E ⟨hp, gs, dr, tk, os⟩ := by
  refine rt_while o n₀ F N hJ (fun n m₁ news₁ h₁ tk₁ F' N' J => ?_) (fun s' J => ?_) hE
  · obtain ⟨pos, t2, state, ts, ln, tl, tok, tt, qq, e, te, u, rfl, hl, htl, rfl, rfl, hs0, hs1, he, hr⟩ := J
    refine isTrue_plain (Constant_bool (wpAny_truthy_bool ?_))
    rw [if_pos rfl]
    exact turn _ pos t2 state ts ln tl tok tt qq e te u h₁ tk₁ hl htl hs0 hs1 he hr (fun _ _ h => h) F' N'
  · obtain ⟨_, pos, t2, state, ts, ln, tl, tok, tt, qq, u, h', tk', rfl, hl, htl, ho, N', F'⟩ := J
    exact after pos t2 state ts ln tl tok tt qq u h' tk' hl htl ho N' F'
end
section
theorem fill_Pc : PySem.Challenge.rw_ij0136_01 = PySem.Challenge.rw_ij0136_01 ∧ pre.heap_1 = pre.heap_1 := by
  k_with_none
  k_with "my rel" => (repeat' (first | (k_unfold; (try dsimp only)) | walk1 | walk_at "my next" | (dsimp only; walk1) | (leave1; try dsimp only) | fail "no step"))
  k_with "my room" => (((try simp only [depth_mark, depth_under_make, depth_under_kw, depth_in1, depth_deeper, depth_caller]); (try dsimp only [ar]); omega))
  k_with "my units" => ((have hcL9 := cLine_is; (try simp only [units_in1, units_deeper, Around.mark_units, units_caller]); (try dsimp only [ar]); omega))
  k_with "my unf" => ((refine' enter ?k1 ?k2 ?k3 ?k4 ?k6 ?k7 ?k8 ?k9 ?kB ?_ ?c2 ?c3 ?c4 ?c5; (case k1 => assumption); (case k2 => assumption); (case k3 => assumption); (case k4 => assumption); (case k6 => k_is); (case k7 => k_is); (case k8 => k_room); (case k9 => first | exact BindsTo.of_eq rfl | exact binds_K (Frag.In.keeps (by assumption) (Below.stays (by assumption))) rfl (by k_is) rfl rfl rfl); (case c5 => decide); (case kB => exact locs rfl); (case c2 => exact rfl); (case c3 => exact rfl); (case c4 => exact rfl); k_whole; intro g' L' h' G' F' N' B' X' T'; (try simp only [List.map_cons, List.map_nil] at G'); (try dsimp only); (try k_fold)))
  k_with "subscriptTail Attribute Name Slice str ref" => (((with_reducible rename Fr _ _ _ _ => F'); (with_reducible rename News _ _ _ _ => N'); (refine slice_strN_ss (hsz := ?hsz) (s := ⟨_, _, _, _, _⟩) F' N' ?_); (case hsz => (rw [sizeLine_eq]; omega)); intro h' t' tk' F' N'; (try k_sweep)))
  k_with "subscriptTail BinOp Subscript Add Constant Slice str ref" => (((with_reducible rename Fr _ _ _ _ => F'); (with_reducible rename News _ _ _ _ => N'); (refine slice_strN_ns (hsz := ?hsz) (s := ⟨_, _, _, _, _⟩) F' N' ?_); (case hsz => exact size_sl (by with_reducible assumption)); intro h' t' tk' F' N'; (try k_sweep)))
  k_with "call builtin:str.find" => (refine find4 ?_)
  k_with "my apart" => (repeat' (first | (refine List.forall_mem_cons.2 ⟨⟨?_, ?_⟩, ?_⟩) | exact List.forall_mem_nil _ | with_reducible assumption | (apply Ne.symm; with_reducible assumption)))
  k_with "binaryOp Add str str" => (((refine add_str (hsz := size_slc (by with_reducible assumption)) ?_); intro _ _))
  k_with "execs cons" => (((try dsimp only); first | (with_reducible refine nx_last ?_) | ((with_reducible refine nx_cons ?_); intro q' nx')))
  k_with "execs nil" => (with_reducible refine wpAny_execs_nil ?_)
  k_with "my next" => (with_reducible first | refine trq_b ?_ | refine ifq_t ?_ | refine ifq_f ?_ | refine ifq ?_ | refine trq ?_ | refine nx_next (by assumption) ?_ | refine nx_ret (by assumption) ?_ | refine nx_brk (by assumption) ?_ | refine nx_cont (by assumption) ?_)
  k_with "eval Constant int" => (((with_reducible refine int_T ?_); intro t' tk'))
  k_with "eval Constant str" => (((with_reducible refine str_T ?_); intro t' tk'))
  k_with "my nth" => (with_reducible first | exact nth_0 | exact nth_1 | exact nth_2 | exact nth_3 | exact nth_4 | exact nth_5 | exact nth_6)
  k_with "my ne" => (first | with_reducible assumption | exact Ne.symm (by with_reducible assumption) | k_ne)
  k_with "my allne" => (first | with_reducible exact all_nil | (refine' all_cons ?a ?b; (case a => walk_at "my ne"); (case b => walk_at "my allne")))
  k_with "my upd" => (first | (refine' upd_head ?a; (case a => walk_at "my allne")) | (refine' upd_tail ?a ?b; (case a => walk_at "my ne"); (case b => walk_at "my upd")))
  k_with "eval Name" => ((k_here; (with_reducible first | show wpAny _ _ (PySem.eval _ (envOf _ _ _ _ _)) _ _ _ | show wpAny _ _ (PySem.eval _ (envX _ _ _ _ _ _)) _ _ _); k_dflt (refine' name_T ?F ?v ?o ?_; (case F => k_asm); (case o => exact rfl); (case v => rfl); k_whole)))
  k_with "eval Attribute Name" => ((k_here; (with_reducible first | show wpAny _ _ (PySem.eval _ (envOf _ _ _ _ _)) _ _ _ | show wpAny _ _ (PySem.eval _ (envX _ _ _ _ _ _)) _ _ _); k_dflt (refine' own_T ?F ?x ?lo ?X ?N ?h1 ?h2 ?ok ?ho ?hl ?hv ?_; (case F => k_asm); (case lo => exact rfl); (case x => exact rfl); (case X => k_asm); (case N => k_asm); (case h1 => walk_at "my nth"); (case h2 => walk_at "my nth"); (case ok => (intro P9; kernel_rfl)); (case ho => first | exact rfl | walk_at "my isD"); (case hl => first | k_get | walk_at "my getl"); (case hv => first | exact rfl | k_handed); k_whole); intro tk'))
  k_with "getAttr ref" => ((k_here; k_dflt (refine' get_T ?F ?X ?N ?h1 ?h2 ?ok ?ho ?hl ?hv ?_; (case F => k_asm); (case X => k_asm); (case N => k_asm); (case h1 => walk_at "my nth"); (case h2 => walk_at "my nth"); (case ok => (intro P9; kernel_rfl)); (case ho => first | exact rfl | walk_at "my isD"); (case hl => first | k_get | walk_at "my getl"); (case hv => first | exact rfl | k_handed); k_whole); intro tk'))
  k_with "storeName" => ((k_here; (with_reducible first | show wpAny _ _ (PySem.storeName (envOf _ _ _ _ _)  _ _) _ _ _ | show wpAny _ _ (PySem.storeName (envX _ _ _ _ _ _)  _ _) _ _ _); k_dflt (refine' store_T ?F ?N ?o ?_; (case F => k_asm); (case N => k_asm); (case o => exact rfl); k_whole); intro h' tk' F' N'; (try k_sweep)))
  k_with "setAttr ref" => ((k_here; k_dflt (refine' set_T ?F ?X ?N ?h1 ?h2 ?ok ?e ?U ?_; (case F => k_asm); (case X => k_asm); (case N => k_asm); (case h1 => walk_at "my nth"); (case h2 => walk_at "my nth"); (case ok => (intro P9; kernel_rfl)); (case e => walk_at "my puts"); (case U => walk_at "my upd"); k_whole); intro h' tk' F' N'; (try k_sweep)))
  k_with "ite" => (first | with_reducible refine ite_tt ?_ | with_reducible refine ite_ff ?_)
  k_with "my ofb" => (with_reducible first | exact Nat.ne_of_beq_eq_false rfl | exact off1 | exact ffo1 | exact off2 | exact ffo2 | exact off3 | exact ffo3 | exact off4 | exact ffo4 | exact off5 | exact ffo5 | exact off6 | exact ffo6)
  k_with "my off" => (with_reducible first | walk_at "my ofb" | (refine strip ?_; first | walk_at "my ofb" | (refine strip ?_; first | walk_at "my ofb" | (refine strip ?_; first | walk_at "my ofb" | (refine strip ?_; first | walk_at "my ofb" | (refine strip ?_; walk_at "my ofb"))))))
  k_with "my omega" => (with_reducible first | (show _ < _; first | exact room (by assumption) rfl | exact room0 (by assumption) | exact room2 (by assumption) rfl | exact room3 (by assumption) rfl | exact room4 (by assumption) rfl | exact room5 (by assumption) rfl | exact lt_ble rfl | exact om_i63' (by assumption) rfl | exact om_i63 (by assumption) rfl | exact Nat.succ_lt_succ (by assumption) | exact Nat.lt_of_succ_lt_succ (by assumption) | exact Int.ofNat_lt.2 (by assumption) | exact Int.ofNat_lt.1 (by assumption)) | (show _ ≤ _; first | exact Nat.le_of_ble_eq_true rfl | exact Nat.le_refl _ | exact Nat.le_succ _ | exact Nat.le_add_right _ _ | exact om_ltle (by assumption) rfl | exact om_le (by assumption) rfl | exact Nat.le_of_lt (by assumption) | exact Int.ofNat_le.2 (by assumption) | exact Int.natCast_nonneg _ | exact Int.ofNat_le.1 (by assumption) | exact om_addl rfl) | (show _ ≠ _; first | walk_at "my off" | exact om_nne (by assumption)) | (show _ = _; first | exact om_nn (by assumption)) | (show False; first | exact no3 (by assumption) | exact no4 (by assumption) | exact no5 (by assumption) | exact no6 (by assumption)) | fail "no")
  k_with "my cmp" => (((case F => k_asm); (case o => exact rfl); (case v => rfl)))
  k_with "isTrue Compare" => (first | (k_here; (with_reducible first | show wpAny _ _ (isTrue _ (envOf _ _ _ _ _) _) _ _ _ | show wpAny _ _ (isTrue _ (envX _ _ _ _ _ _) _) _ _ _); first | ((with_reducible show wpAny _ _ (isTrue (.Compare (.Name _ _) [_] [.Constant (.str _) _ _] _) _ _) _ _ _); k_dflt (refine' cmp_s ?F ?v ?o ?_ ?m; walk_at "my cmp"; (case m => with_unfolding_all rfl); k_whole; intro t' tk')) | ((with_reducible show wpAny _ _ (isTrue (.Compare (.Name _ _) [_] [.Constant (.int _) _ _] _) _ _) _ _ _); k_dflt (refine' cmp_i ?F ?v ?o ?_ ?m; walk_at "my cmp"; (case m => with_unfolding_all rfl); k_whole; intro t' tk')) | ((with_reducible show wpAny _ _ (isTrue (.Compare (.Name _ _) [_] [.Constant .none _ _] _) _ _) _ _ _); k_dflt (refine' cmp_n ?F ?v ?o ?_ ?m; walk_at "my cmp"; (case m => with_unfolding_all rfl); k_whole)) | ((with_reducible show wpAny _ _ (isTrue (.Compare (.Name _ _) [_] [.Name _ _] _) _ _) _ _ _); k_dflt (refine' cmp_nn ?F ?v ?o ?u ?p ?_ ?m; walk_at "my cmp"; (case p => exact rfl); (case u => rfl); (case m => with_unfolding_all rfl); k_whole))) | with_reducible refine cmp_1 ?_)
  k_with "exec If" => (with_reducible refine if_T ?_)
  k_with "my puts" => (first | with_reducible exact lex_state | with_reducible exact lex_token | with_reducible exact lex_line | with_reducible exact sio_pos)
  k_fill
  exact ⟨rfl, rfl⟩
theorem c_pc {base : Heap} {s : Shared} {R : Result → Shared → Prop}
    {lx dlx st pb fs : Addr} {k v : Nat → Tok} {WC : Str} {sv : Value} {ln : Int} {tl tt : Tok} {tok : Str}
    (B : Below (ar dp un gd outs) base outs s.heap) (X : (pre.heap_1 w.params).In base) (TT : Top p loose mean mg mb base) (V : Free base outs s.heap [(lx, instObj 722 dlx), (dlx, lexD w.params k v WC st pb fs sv ln tl tok tt)])
    (hdp : dp + 5 < recursionLimit) (hu : un + 20 < cLine)
    (ret : ∀ h' tk', Kept [lx, dlx] s.heap h' → h'.get? lx = some (instObj 722 dlx) → h'.get? dlx = some (lexD w.params k v WC st pb fs sv ln tl tok tt) → R (.ok (.ret (.str (Str.ofString "") (v 18)))) { s with heap := h', toks := tk' }) :
    codeAny (model PG w) (ar dp un gd outs) (.call (.ref 653) ⟨[.ref lx], []⟩) R s := by
  k_dflt ktr_unf
  ktr_rel
  all_goals (repeat' (first | k_unfold | dsimp only))
  with_reducible rename Fr _ _ _ _ => F'
  with_reducible rename News _ _ _ _ => N'
  with_reducible rename Kept _ _ _ => K'
  exact ret _ _ (kept_of K' F') (News.get N' (by k_mem)) (News.get N' (by k_mem))
theorem k_pc {base g : Heap} {L : Addr} {m : Str → Option Value} {env : Env} {hp : Heap} {gs : Array GenState} {dr : Drawn} {tk : Nat} {os : OsState}
    {Q : Value → Shared → Prop} {E : Value → Shared → Prop} {a1 a2 : Addr × Obj} {lx dlx st pb fs : Addr} {k v : Nat → Tok} {WC : Str} {sv : Value} {ln : Int} {tl tt : Tok} {tok : Str} {ex : Bool}
    (B : Below (ar dp un gd outs) base outs g) (F : Fr g L hp m) (N : News g L hp [a1, a2, (lx, instObj 722 dlx), (dlx, lexD w.params k v WC st pb fs sv ln tl tok tt)]) (X : (pre.heap_1 w.params).In base) (TT : Top p loose mean mg mb base)
    (hf : env.frame = some L) (hk : env.scope.kind = .function) (hdp : dp + 10 < recursionLimit) (hu : un + 40 < cLine) (n1 : a1.1 ≠ lx) (n2 : a2.1 ≠ lx) (n3 : a1.1 ≠ dlx) (n4 : a2.1 ≠ dlx)
    (q : ∀ h' tk', Fr g L h' m → News g L h' [a1, a2, (lx, instObj 722 dlx), (dlx, lexD w.params k v WC st pb fs sv ln tl tok tt)] → Q (.str (Str.ofString "") (v 18)) ⟨h', gs, dr, tk', os⟩) :
    wpAny (model PG w) ((ar dp un gd outs).deeper env) (getAttr (.ref lx) (Str.ofString "punctuation_chars") ex) Q E ⟨hp, gs, dr, tk, os⟩ := by
  have hs : ∀ x ∈ [(lx, instObj 722 dlx), (dlx, lexD w.params k v WC st pb fs sv ln tl tok tt)], x ∈ [a1, a2, (lx, instObj 722 dlx), (dlx, lexD w.params k v WC st pb fs sv ln tl tok tt)] := fun x hx => .tail _ (.tail _ hx)
  k_dflt (refine' get_prop (s := ⟨hp, gs, dr, tk, os⟩) (fget := 653) F ?k2 ?k3 ?k4 ?k5 ?k6 ?k7 ?k8 ?k9 ?_)
  case k2 => exact X.keeps B.stays
  case k3 => exact InstAt.of_news N (.tail _ (.tail _ (.head _))) (.tail _ (.tail _ (.tail _ (.head _))))
  all_goals (try k_is)
  refine c_pc (dp := dp + 1) (un := un + 4) (outs := env :: outs) ⟨rfl, (pushX B F hf hk).stays, (pushX B F hf hk).frames⟩ X TT (free_of B F N hf hs) (by omega) (by omega) fun h' tk' K h1 h2 => ?_
  have r := back F N hs (post := [(lx, instObj 722 dlx), (dlx, lexD w.params k v WC st pb fs sv ln tl tok tt)]) (rest := [a1, a2]) (fun x hx => ?_) K (fun x hx => ?_) (fun x hx => ?_)
  · refine handed_on rfl (q h' tk' r.1 ?_)
    exact List.forall_mem_cons.2 ⟨r.2 _ (.tail _ (.tail _ (.head _))), List.forall_mem_cons.2 ⟨r.2 _ (.tail _ (.tail _ (.tail _ (.head _)))), List.forall_mem_cons.2 ⟨r.2 _ (.head _), List.forall_mem_cons.2 ⟨r.2 _ (.tail _ (.head _)), List.forall_mem_nil _⟩⟩⟩⟩
  · rcases List.mem_cons.mp hx with rfl | hx
    · exact ⟨.head _, fun q => by rcases List.mem_cons.mp q with q | q; exact n1 q; rcases List.mem_cons.mp q with q | q; exact n3 q; cases q⟩
    · rcases List.mem_cons.mp hx with rfl | hx
      · exact ⟨.tail _ (.head _), fun q => by rcases List.mem_cons.mp q with q | q; exact n2 q; rcases List.mem_cons.mp q with q | q; exact n4 q; cases q⟩
      · cases hx
  · rcases List.mem_cons.mp hx with rfl | hx
    · exact h1
    · rcases List.mem_cons.mp hx with rfl | hx
      · exact h2
      · cases hx
  · exact .inl (List.mem_map_of_mem hx)
end
section
open PySem.W.X PySem.Builtin
noncomputable abbrev cellO (v : Option Value) : Obj := { cls := .type "cell", data := .cell v }
noncomputable abbrev frmO : Obj := { cls := .type "frame", data := .dict #[] }
theorem m_cellSet {prog : Program} {w : World} {A : Around} {E : Value → Shared → Prop} {h₀ h : Heap} {chg news : List (Addr × Obj)} {g : Array GenState} {d : Drawn} {t : Nat} {os : OsState} {Q : Unit → Shared → Prop} {a : Addr} {v0 : Option Value} {v : Value} (i : Nat) (D : Mem h₀ h chg news) (hi : news[i]? = some (a, cellO v0))
    (x : ∀ h', Mem h₀ h' chg (news.set i (a, cellO (some v))) → Q () ⟨h', g, d, t, os⟩) : wpAny (model prog w) A (cellSet a (some v)) Q E ⟨h, g, d, t, os⟩ := by
  delta cellSet
  refine wpAny_bind (wpAny_load (D.at i a _ hi) ?_)
  exact m_upd _ i D hi rfl x
section
variable {w : World} {s : Shared} {base : Heap} {outs : List Env} {K : Frag} {p : Program} {loose : List Str} {mean : ExcName → Option Value} {mg mb : Str → Option Value} {dp un : Nat} {gd : Option (List Code)}
theorem enterC {R : Result → Shared → Prop} {name qual : Str} {params : Arguments} {body : List Stmt} {scope : Scope} {dV kV doc pm cdv ct oc : Value} {an od : Option Addr} {osl : Array (Option Value)} {f : Addr} {args : Args} {v : Value} {led : List (Addr × Obj)}
    (B : Below (ar dp un gd outs) base outs s.heap) (X : K.In base) (T : Top p loose mean mg mb base) (hV : ∀ x ∈ led, base.get? x.1 = none) (D : Mem (hideAll s.heap (led.map (·.1))) s.heap [] led)
    (ho : K.lookup f = some ⟨oc, od, .func (fnOf name qual params body scope dV kV doc pm an cdv ct), osl⟩) (hcd : codeIn K cdv qual = true) (hroom : dp < recursionLimit)
    (hbind : BindsTo s (fnOf name qual params body scope dV kV doc pm an cdv ct) args [(Str.ofString "mycmp", v)]) (hn : scope.names = [(Str.ofString "mycmp", .cell), (Str.ofString "K", .local), (Str.ofString "object", .globalImplicit)])
    (h : ∀ L c h₁, Mem (hideAll s.heap (led.map (·.1))) h₁ [] ((c, cellO (some v)) :: (L, frmO) :: led) →
      wpAny (model PG w) ((ar dp un gd outs).deeper (envX qual scope L f cdv [(Str.ofString "mycmp", c)])) (execs body (envX qual scope L f cdv [(Str.ofString "mycmp", c)]))
        (fun fl s' => R (.ok (.ret (match fl with | .ret v => v | _ => .none))) s')
        (fun e s' => wpAny (model PG w) ((ar dp un gd outs).deeper (envX qual scope L f cdv [(Str.ofString "mycmp", c)])) (leaving (envX qual scope L f cdv [(Str.ofString "mycmp", c)]) e) (fun _ s'' => R (.error e) s'') (fun e' s'' => R (.error e') s'') s')
        ⟨h₁, s.gens, s.drawn, s.toks, s.os⟩)
    (hco : scope.isCoroutine = false) (hgen : scope.isGenerator = false) (hk : scope.kind = .function) : codeAny (model PG w) (ar dp un gd outs) (.call (.ref f) args) R s := by
  have XS := X.keeps B.stays
  refine codeAny_call_function (fd := fnOf name qual params body scope dV kV doc pm an cdv ct) hroom (XS _ _ ho) rfl hco hgen rfl (codeRec_of XS hcd) (hbind _ _ _ _ ?_)
  delta newFunctionEnv
  refine wpAny_bind (m_allocA D fun L h1 D1 => ?_)
  have e : (fnOf name qual params body scope dV kV doc pm an cdv ct).scope.names = [(Str.ofString "mycmp", NameKind.cell), (Str.ofString "K", .local), (Str.ofString "object", .globalImplicit)] := hn
  dsimp only
  rw [e]
  refine wpAny_bind (m_for ?_)
  refine wpAny_bind (wpAny_bind (m_allocA D1 fun c h2 D2 => wpAny_pure ?_))
  refine wpAny_pure ?_
  refine m_for (wpAny_pure ?_)
  refine m_for (wpAny_pure ?_)
  refine m_forNil ?_
  refine wpAny_bind (m_for ?_)
  refine wpAny_bind ?_
  show wpAny _ _ (storeName (envX qual scope L f cdv [(Str.ofString "mycmp", c)]) (Str.ofString "mycmp") v) _ _ _
  have hl : (envX qual scope L f cdv [(Str.ofString "mycmp", c)]).kindOf (Str.ofString "mycmp") = some .cell := by
    show scope.names.lookup _ = _
    rw [hn]; rfl
  have hkk : (envX qual scope L f cdv [(Str.ofString "mycmp", c)]).scope.kind = .function := hk
  unfold storeName
  simp only [hl]
  refine m_false (c := scope.kind == ScopeKind.class && some NameKind.cell == some NameKind.cell) (by rw [hk]; rfl) ?_
  refine wpAny_bind (m_is c rfl ?_)
  refine m_cellSet 0 D2 rfl fun h3 D3 => ?_
  refine wpAny_pure ?_
  refine m_forNil ?_
  refine wpAny_pure ⟨?_, codeAny_func (h L c h3 D3)⟩
  exact T.nolimit.keeps fun b o e => D3.keep b o (hideAll_get _ (B.stays b o e) fun q => by
    obtain ⟨z, hz, e'⟩ := List.mem_map.mp q
    rw [← e', hV z hz] at e; cases e) (by simp [away])
end
end
section
theorem fill_Rt : PySem.Challenge.rw_ij0136_01 = PySem.Challenge.rw_ij0136_01 ∧ pre.heap_1 = pre.heap_1 := by
  k_with "call ref" => (((with_reducible show wpAny _ _ (call (Value.ref 53) _) _ _ _); (try dsimp only [List.cons_append, List.nil_append]); (with_reducible rename Fr _ _ _ _ => F'); (with_reducible rename News _ _ _ _ => N'); (refine' k_index ?B F' N' ?X ?T rfl rfl ?dp ?un ?h1 ?h2 ?_; (case B => with_reducible assumption); (case X => with_reducible assumption); (case T => with_reducible assumption); (case dp => omega); (case un => omega); (case h1 => omega); (case h2 => omega); intro t' h' tk' F' N'); (try dsimp only); (try k_sweep)))
  k_with "call ref" => (((with_reducible show wpAny _ _ (call (Value.ref 371) _) _ _ _); (try dsimp only [List.cons_append, List.nil_append]); (with_reducible rename Fr _ _ _ _ => F'); (with_reducible rename News _ _ _ _ => N'); (refine' k_check ?B F' N' ?X ?T rfl rfl ?dp ?un ?ap ?_; (case B => with_reducible assumption); (case X => with_reducible assumption); (case T => with_reducible assumption); (case dp => omega); (case un => omega); (case ap => walk_at "my apart"); intro h' tk' F' N'); (try dsimp only); (try k_sweep)))
  k_with "call ref" => (((with_reducible show wpAny _ _ (call (Value.ref 533) _) _ _ _); (try dsimp only [List.cons_append, List.nil_append]); (with_reducible rename Fr _ _ _ _ => F'); (with_reducible rename News _ _ _ _ => N'); (refine' k_read_eof ?B F' N' ?X ?T rfl rfl ?ne ?dp ?un ?l ?T1 ?ap ?cs ?_; (case B => with_reducible assumption); (case X => with_reducible assumption); (case T => with_reducible assumption); (case dp => omega); (case un => omega); (case ne => with_reducible assumption); (case l => with_reducible assumption); (case T1 => with_reducible assumption); (case cs => with_reducible assumption); (case ap => walk_at "my apart"); intro t' t2' h' tk' F' N'); (try dsimp only); (try k_sweep)))
  k_with "call ref" => (((with_reducible show wpAny _ _ (call (Value.ref 533) _) _ _ _); (try dsimp only [List.cons_append, List.nil_append]); (with_reducible rename Fr _ _ _ _ => F'); (with_reducible rename News _ _ _ _ => N'); (refine' k_read_chr ?B F' N' ?X ?T rfl rfl ?ne ?dp ?un ?l ?T1 ?ap ?cs ?_; (case B => with_reducible assumption); (case X => with_reducible assumption); (case T => with_reducible assumption); (case dp => omega); (case un => omega); (case ne => with_reducible assumption); (case l => with_reducible assumption); (case T1 => with_reducible assumption); (case cs => with_reducible assumption); (case ap => walk_at "my apart"); intro t' t2' h' tk' F' N'); (try dsimp only); (try k_sweep)))
  k_with "call ref" => (((with_reducible show wpAny _ _ (call (Value.ref 541) _) _ _ _); (try dsimp only [List.cons_append, List.nil_append]); (with_reducible rename Fr _ _ _ _ => F'); (with_reducible rename News _ _ _ _ => N'); (refine' k_readline ?B F' N' ?X ?T rfl rfl ?ne ?dp ?un ?l ?T1 ?ap ?_; (case B => with_reducible assumption); (case X => with_reducible assumption); (case T => with_reducible assumption); (case dp => omega); (case un => omega); (case ne => with_reducible assumption); (case l => with_reducible assumption); (case T1 => with_reducible assumption); (case ap => walk_at "my apart"); intro r' t2' h' tk' qq' hq1' hq2' hq3' F' N'); (try dsimp only); (try k_sweep)))
  k_with "compareOp In str str" => (first | with_reducible refine in_ws ?_ | with_reducible refine in_hash ?_ | with_reducible refine in_esc ?_ | with_reducible refine in_quo ?_ | with_reducible refine in_dq ?_ | with_reducible refine in_none ?_ | with_reducible refine in_one ?_)
  k_with "compareOp Eq str str" => (first | with_reducible refine eq_nl ?_ | with_reducible refine eq_sp ?_ | with_reducible refine eq_one ?_)
  k_with "compareOp NotEq str str" => (with_reducible refine ne_one ?_)
  k_with "inplaceOp Add str str" => (((refine iadd_tx ?_ (by with_reducible assumption) (Nat.le_of_ble_eq_true rfl)); intro _ _))
  k_with "compareOp Eq str str" => (with_reducible refine eq_c (by with_reducible assumption) ?_)
  k_with "compareOp Eq str str" => (with_reducible refine eq_nil ?_)
  k_with "truthy str" => (((refine truthy_tx (by with_reducible assumption) ?_); intro _))
  k_with "truthy str" => ((with_reducible refine truthy_chr ?_; intro _))
  k_with "exec If" => (((with_reducible show wpAny _ _ (exec (Stmt.If (Expr.Compare _ _ _ _) [Stmt.AugAssign _ _ _ _] [] _) _) _ _ _); (have hmk9 : Mark := by with_reducible assumption); clear hmk9; refine stop_here ?_))
  k_with "compareOp NotIn str str" => (with_reducible refine notin_none ?_)
  k_with "my omega" => (with_reducible first | (show _ < _; first | exact om_sub1 (by assumption) | exact om_sub2 (by assumption) (by assumption) | exact om_lim (by assumption) (by assumption) (by assumption) | exact om_lim1 (by assumption) (by assumption) (by assumption) | exact om_n6 (by assumption)) | (show _ ≤ _; first | exact om_2p1 (by assumption) | exact om_2p2 (by assumption) | exact om_2p0 (by assumption) | exact om_2p (by assumption) (by assumption)) | fail "no")
  k_with "getAttr ref" => (((with_reducible show wpAny _ _ (getAttr _ (PySem.Str.ofString "punctuation_chars") _) _ _ _); (with_reducible rename Fr _ _ _ _ => F'); (with_reducible rename News _ _ _ _ => N'); k_dflt (refine' k_pc ?B F' N' ?X ?T rfl rfl ?dp ?un ?n1 ?n2 ?n3 ?n4 ?_; (case B => with_reducible assumption); (case X => with_reducible assumption); (case T => with_reducible assumption); (case dp => omega); (case un => omega); (case n1 => walk_at "my ne"); (case n2 => walk_at "my ne"); (case n3 => walk_at "my ne"); (case n4 => walk_at "my ne")); intro h' tk' F' N'; (try k_sweep)))
  k_fill
  exact ⟨rfl, rfl⟩
theorem lines_Rt_0 : True := by
  k_with "exec While" => (refine stop_here ?_)
  trivial
theorem wc_q {WC : Str} {c : Nat} (h : ∀ c ∈ WC.cps.toList, (c == 39 || c == 34) = false) (hc : c ∈ WC.cps.toList) : (c == 39 || c == 34) = false := h c hc
theorem no_state {s : Nat} (hs : ∀ c, some s = some c → c = 32 ∨ c = 39 ∨ c = 34 ∨ c = 92 ∨ c = 97) (h1 : (s == 32) = false) (h2 : (s == 39 || s == 34) = false) (h3 : (s == 92) = false) (h4 : ([Str.ofString "a", Str.ofString "c"].any fun x => x == tx [s]) = false) : False := by
  rcases hs s rfl with rfl | rfl | rfl | rfl | rfl
  · cases h1
  · cases h2
  · cases h2
  · cases h3
  · rw [lit_a] at h4
    simp at h4
theorem lines_Rt_1 : True := by
  k_with "compareOp In str ref" => ((k_here; (with_reducible show wpAny _ _ (compareOp CmpOp.In (Value.str _ _) (Value.ref _)) _ _ _); (with_unfolding_all refine' in_tuple_strs ?k1 ?k2 ?_; (case k1 => exact News.isTup (by k_asm) (by news_mem)); (case k2 => kde_strs); k_whole); (with_reducible rename News _ _ _ _ => N'); (replace N' := news_tail N')))
  trivial
theorem c_rt {base : Heap} {s : Shared} {R : Result → Shared → Prop}
    {st dst lx dlx pb fs : Addr} {k1 k2 k3 t0 t1 t2 : Tok} {l : List Nat} {pos : Nat} {k v : Nat → Tok} {WC : Str} {state : Option Nat} {ts : Tok} {ln : Int} {tl tt : Tok} {o : Out}
    (B : Below (ar dp un gd outs) base outs s.heap) (X : (pre.heap_1 w.params).In base) (TT : Top p loose mean mg mb base)
    (V : Free base outs s.heap [(st, instObj 587 dst), (dst, sioD w.params k1 k2 k3 t0 t1 t2 (tx l) pos), (lx, instObj 722 dlx), (dlx, lexD w.params k v WC st pb fs (stV state ts) ln tl (tx []) tt)])
    (hne : @Ne Nat st dst) (n1 : @Ne Nat lx st) (n2 : @Ne Nat lx dst) (n3 : @Ne Nat dlx st) (n4 : @Ne Nat dlx dst) (n5 : @Ne Nat lx dlx) (hdp : dp + 10 < recursionLimit) (hu : un + 100 < cLine)
    (hl : pos ≤ l.length) (hT : l.length < 400000) (hst : (state = none ∧ l.drop pos = []) ∨ state = some 32) (ho : Rds (l.drop pos) state false 32 [] o)
    (hWC : ∀ c ∈ WC.cps.toList, (c == 39 || c == 34) = false)
    (ret : ∀ t q st' rest vv, o = .tok t q st' rest → (vv = .none ∧ t = [] ∧ q = false) ∨ (∃ tk, vv = .str (tx t) tk ∧ (!t.isEmpty || q) = true) → ∀ h' tk' (pos' : Nat) t2' ts' ln' tl' tt', pos' ≤ l.length → l.drop pos' = rest → Kept [st, dst, lx, dlx] s.heap h' →
      h'.get? st = some (instObj 587 dst) → h'.get? dst = some (sioD w.params k1 k2 k3 t0 t1 t2' (tx l) (pos' : Int)) → h'.get? lx = some (instObj 722 dlx) → h'.get? dlx = some (lexD w.params k v WC st pb fs (stV st' ts') ln' tl' (tx []) tt') →
      R (.ok (.ret vv)) { s with heap := h', toks := tk' })
    (bad : o = .bad → ∀ h' tk' e, Refused base outs s.heap [st, dst, lx, dlx] e h' → R (.error (.ref e)) { s with heap := h', toks := tk' }) :
    codeAny (model PG w) (ar dp un gd outs) (.call (.ref 690) ⟨[.ref lx], []⟩) R s := by
  k_dflt ktr_unf
  ktr_rel
  unfold Stop
  with_reducible rename Fr _ _ _ _ => F'
  with_reducible rename News _ _ _ _ => N'
  refine rt_loop (st := st) (dst := dst) (lx := lx) (dlx := dlx) (pb := pb) (fs := fs) (k1 := k1) (k2 := k2) (k3 := k3) (t0 := t0) (t1 := t1) (l := l) (k := k) (v := v) (WC := WC) o (l.length - pos) F' N' ?hJ ?turn ?after ?own
  case own => first | passes_own | with_unfolding_all passes_own
  case hJ =>
    refine rtJ_intro (te := ?te) (q := false) state ts 32 rfl rfl rfl (by rw [← sp_is]; rfl) hl hst (.inl rfl) ho
  case after =>
    intro pos' t2' st' ts' ln' tl' tok tt' q u h' tk' hl' htl' ho' N' F'
    have htok : tok.length < 1000000 := om_lim hT hl' htl'
    ktr_rel
    all_goals (repeat' (first | k_unfold | dsimp only))
    all_goals (with_reducible rename Fr _ _ _ _ => F'; with_reducible rename News _ _ _ _ => N')
    all_goals (with_reducible rename Kept _ _ _ => K')
    all_goals (first
      | exact ret _ _ _ _ _ ho' (.inl ⟨rfl, List.isEmpty_iff.mp (by with_reducible assumption), (by with_reducible assumption)⟩) _ _ _ _ _ _ _ _ hl' rfl (kept_of K' F') (News.get N' (by k_mem)) (News.get N' (by k_mem)) (News.get N' (by k_mem)) (lex0 (News.get N' (by k_mem)))
      | exact ret _ _ _ _ _ ho' (.inr ⟨_, rfl, tok_some (.inr (by with_reducible assumption))⟩) _ _ _ _ _ _ _ _ hl' rfl (kept_of K' F') (News.get N' (by k_mem)) (News.get N' (by k_mem)) (News.get N' (by k_mem)) (lex0 (News.get N' (by k_mem)))
      | exact ret _ _ _ _ _ ho' (.inr ⟨_, rfl, tok_some (.inl (by with_reducible assumption))⟩) _ _ _ _ _ _ _ _ hl' rfl (kept_of K' F') (News.get N' (by k_mem)) (News.get N' (by k_mem)) (News.get N' (by k_mem)) (lex0 (News.get N' (by k_mem)))
     )
  case turn =>
  intro Q' pos t2 state ts ln tl tok tt q e te u h₁ tk₁ hl htl hs0 hs1 he hr hq F' N'
  have htok : tok.length < 1000000 := om_lim hT hl htl
  have hT1 : l.length < 1000000 := om_n6 hT
  cases state with
  | none =>
    have hd := hs0 rfl
    simp only [stV] at N'
    ktr_rel
    all_goals (try dsimp only)
    with_reducible rename Fr _ _ _ _ => F'
    with_reducible rename News _ _ _ _ => N'
    refine hq _ _ ?_; refine' mid_intro0 none 0 F' N' ?m1 ?m2 ?m3 ?m4 ?e1 ?e2 ?hl ?ho; (case m1 => k_mem); (case m2 => k_mem); (case m3 => k_mem); (case m4 => k_mem); (case e1 => rfl); (case e2 => rfl); (case hl => with_reducible assumption)
    (case ho => exact fin0 hr hd)
  | some c₀ =>
    cases hcs : l.drop pos with
    | nil =>
      have hr0 := hr
      rw [hcs] at hr0
      have h99 : (c₀ == 99) = false := by rcases hs1 c₀ rfl with rfl | rfl | rfl | rfl | rfl <;> rfl
      simp only [stV] at N'
      ktr_rel
      all_goals (try dsimp only)
      all_goals (try (exfalso; exact no_state hs1 (by with_reducible assumption) (by with_reducible assumption) (by with_reducible assumption) (by with_reducible assumption)))
      all_goals (with_reducible rename Fr _ _ _ _ => F'; with_reducible rename News _ _ _ _ => N')
      all_goals (first
        | exact bad (fin3 hr0 (by with_reducible assumption) (by with_reducible assumption)) _ _ _ (refused_of (by with_reducible assumption) (by with_reducible assumption) (by with_reducible assumption))
        | exact bad (fin4 hr0 (by with_reducible assumption) (by with_reducible assumption) (by with_reducible assumption)) _ _ _ (refused_of (by with_reducible assumption) (by with_reducible assumption) (by with_reducible assumption))
        | (refine hq _ _ ?_; refine' mid_intro none 0 _ F' N' ?m1 ?m2 ?m3 ?m4 ?e1 ?e2 ?hl ?htl ?ho; (case m1 => k_mem); (case m2 => k_mem); (case m3 => k_mem); (case m4 => k_mem); (case e1 => rfl); (case e2 => rfl); (case hl => with_reducible assumption); (case htl => omega);
           (case ho => (first | (rw [hcs]; exact fin1 hr0 (by with_reducible assumption)) | (rw [hcs]; exact fin2 hr0 (by with_reducible assumption) (by with_reducible assumption) (by with_reducible assumption)))))
       )
    | cons c r =>
      simp only [stV] at N'
      have hmk : Mark := trivial
      have hr0 : r = l.drop (pos + 1) := by
        have := congrArg (List.drop 1) hcs
        rw [List.drop_drop] at this
        exact this.symm
      subst hr0
      rw [hcs] at hr
      have hc1 : [c].length < 1000 := Nat.le_of_ble_eq_true rfl
      have hl1 : pos + 1 ≤ l.length := by
        have := congrArg List.length hcs
        rw [List.length_drop, List.length_cons] at this; exact om_pos this
      have htok1 : (tok ++ [c₀]).length < 1000000 := by rw [List.length_append]; exact om_lim1 hT htl hl1
      have h99 : (c₀ == 99) = false := by rcases hs1 c₀ rfl with rfl | rfl | rfl | rfl | rfl <;> rfl
      have hne0 : some 32 ≠ none ∧ some 97 ≠ none ∧ some c ≠ none ∧ some c₀ ≠ none ∧ some e ≠ none := ⟨nofun, nofun, nofun, nofun, nofun⟩
      ktr_rel
      unfold Stop
      with_reducible rename Fr _ _ _ _ => F'
      with_reducible rename News _ _ _ _ => N'
      refine cut_line (s := ⟨_, _, _, _, _⟩) F' N' (wpAny_If ?_) ?_
      · ktr_rel
        all_goals (first | exact ⟨rfl, _, _, _, _, rfl, by with_reducible assumption, by with_reducible assumption⟩)
      · intro h' tk' ln' tl' F' N'
        dsimp only
        ktr_rel
        all_goals (try dsimp only)
        all_goals (try (exfalso; exact no_state hs1 (by with_reducible assumption) (by with_reducible assumption) (by with_reducible assumption) (by with_reducible assumption)))
        all_goals (with_reducible rename Fr _ _ _ _ => F'; with_reducible rename News _ _ _ _ => N')
        all_goals (try simp only [lit_a, sp_is] at F' N')
        all_goals (first
          | (refine hq _ _ ?_; refine' mid_intro (some _) _ _ F' N' ?m1 ?m2 ?m3 ?m4 ?e1 ?e2 ?hl ?htl ?ho; (case m1 => k_mem); (case m2 => k_mem); (case m3 => k_mem); (case m4 => k_mem); (case e1 => rfl); (case e2 => rfl); (case hl => with_reducible assumption); (case htl => omega); (case ho => (first | exact w0 hr (by with_reducible assumption) (by with_reducible assumption) (by with_reducible assumption) (by with_reducible assumption) | exact w2 hr (by with_reducible assumption) (by with_reducible assumption) (by with_reducible assumption) | exact w16 hr (by with_reducible assumption) (by with_reducible assumption) (by with_reducible assumption) (by with_reducible assumption) (by with_reducible assumption) (by with_reducible assumption) | exact w18 hr (by with_reducible assumption) (by with_reducible assumption) (by with_reducible assumption) (by with_reducible assumption) (by with_reducible assumption) | exact w19a' hr (by with_reducible assumption) (by with_reducible assumption) (by with_reducible assumption) (by with_reducible assumption) (by with_reducible assumption) (by with_reducible assumption) (by with_reducible assumption) (by with_reducible assumption) | exact w19c' hr (by with_reducible assumption) (by with_reducible assumption) (by with_reducible assumption) (by with_reducible assumption) (by with_reducible assumption) (by with_reducible assumption) (by with_reducible assumption))))
          | (refine hq _ _ ?_; refine' step_intro (some _) _ _ _ _ ?hf F' N' ?m1 ?m2 ?m3 ?m4 ?e1 ?e2 ?e3 ?hl ?hn ?htl ?h0 ?h1 ?he ?ho; (case hf => first | exact .inl rfl | exact .inr rfl); (case m1 => k_mem); (case m2 => k_mem); (case m3 => k_mem); (case m4 => k_mem); (case e1 => rfl); (case e2 => rfl); (case e3 => rfl); (case hl => with_reducible assumption); (case h0 => exact nofun); (case ho => (first | exact w1 hr (by with_reducible assumption) (by with_reducible assumption) (by with_reducible assumption) (by with_reducible assumption) | exact w3' hr (by with_reducible assumption) (by with_reducible assumption) (by with_reducible assumption) (by with_reducible assumption) | exact w4 hr (by with_reducible assumption) (by with_reducible assumption) (by with_reducible assumption) (by with_reducible assumption) | exact w5 hr (by with_reducible assumption) (by with_reducible assumption) (by with_reducible assumption) (by with_reducible assumption) (by with_reducible assumption) | exact w5 hr (by with_reducible assumption) (by with_reducible assumption) (by with_reducible assumption) (by with_reducible assumption) (wc_q hWC (by with_reducible assumption)) | exact w6 hr (by with_reducible assumption) (by with_reducible assumption) (by with_reducible assumption) (by with_reducible assumption) (by with_reducible assumption) | exact w8 hr (by with_reducible assumption) (by with_reducible assumption) (by with_reducible assumption) | exact w9 hr (by with_reducible assumption) (by with_reducible assumption) (by with_reducible assumption) (by with_reducible assumption) (by with_reducible assumption) | exact w10 hr (by with_reducible assumption) (by with_reducible assumption) (by with_reducible assumption) (by with_reducible assumption) (by with_reducible assumption) | exact w11 hr (by with_reducible assumption) (by with_reducible assumption) (by with_reducible assumption) (by with_reducible assumption) | exact w12 hr (by with_reducible assumption) (by with_reducible assumption) (by with_reducible assumption) (by with_reducible assumption) (by with_reducible assumption) (by with_reducible assumption) | exact w13 hr (by with_reducible assumption) (by with_reducible assumption) (by with_reducible assumption) (by with_reducible assumption) (by with_reducible assumption) (by with_reducible assumption) | exact w14 hr (by with_reducible assumption) (by with_reducible assumption) (by with_reducible assumption) (by with_reducible assumption) (by with_reducible assumption) | exact w15 hr (by with_reducible assumption) (by with_reducible assumption) (by with_reducible assumption) (by with_reducible assumption) | exact w17 hr (by with_reducible assumption) (by with_reducible assumption) (by with_reducible assumption) (by with_reducible assumption) (by with_reducible assumption) (by with_reducible assumption) | exact w19b' hr (by with_reducible assumption) (by with_reducible assumption) (by with_reducible assumption) (by with_reducible assumption) (by with_reducible assumption) (by with_reducible assumption) (by with_reducible assumption) (by with_reducible assumption) | exact w20 hr (by with_reducible assumption) (by with_reducible assumption) (by with_reducible assumption) (by with_reducible assumption) (by with_reducible assumption) (by with_reducible assumption) | exact w21 hr (by with_reducible assumption) (by with_reducible assumption) (by with_reducible assumption) (by with_reducible assumption) (by with_reducible assumption) (by with_reducible assumption) (by with_reducible assumption) | exact w22 hr hs1 (by with_reducible assumption) (by with_reducible assumption) (by with_reducible assumption) (by with_reducible assumption) (by with_reducible assumption) (by with_reducible assumption) (by with_reducible assumption))); (case hn => omega); (case htl => first | omega | (simp only [List.length_append, List.length_cons, List.length_nil]; omega));
             (case he => first | with_reducible assumption | exact .inr (.inl rfl) | exact eok_34 (by with_reducible assumption)); (case h1 => first | with_reducible assumption | exact stok_97 | exact stok_32 | exact stok_b (by with_reducible assumption) | exact stok_q (by with_reducible assumption) | exact stok_e (by with_reducible assumption)))
         )
end
section
open PySem.W.X PySem.Builtin
theorem m_no {α : Type} {M : Model} {A : Around} {E : Value → Shared → Prop} {s : Shared} {Q : α → Shared → Prop} {c : Prop} [Decidable c] {a b : Sem α} (e : ¬ c) (x : wpAny M A b Q E s) : wpAny M A (if c then a else b) Q E s := by rw [if_neg e]; exact x
set_option autoImplicit false
section
variable {w : World} {A : Around} {E : Value → Shared → Prop} {h₀ h base : Heap} {news : List (Addr × Obj)} {g : Array GenState} {d : Drawn} {t : Nat} {os : OsState} {p : Program} {loose : List Str} {mean : ExcName → Option Value} {mg mb : Str → Option Value}
theorem m_gt (D : Mem h₀ h [] news) (i j : Nat) (a b : Addr) (oa ob : Obj) (hi : news[i]? = some (a, oa)) (hj : news[j]? = some (b, ob)) (ij : Nat.blt i j = true) : b < a := by
  have lt : i < j := Nat.le_of_ble_eq_true ij
  obtain ⟨li, ei⟩ := List.getElem?_eq_some_iff.mp hi
  obtain ⟨lj, ej⟩ := List.getElem?_eq_some_iff.mp hj
  have q := (List.pairwise_iff_getElem.mp D.ord) i j (by rw [List.length_map]; exact li) (by rw [List.length_map]; exact lj) lt
  rw [List.getElem_map, List.getElem_map, ei, ej] at q
  exact q
theorem m_storeC {Q : Unit → Shared → Prop} {env : Env} {a : Addr} {n : Str} {v : Value} {es : List DictEntry} {m : Nat} (m' : Nat) (es' : Tok → List DictEntry) (i : Nat) (D : Mem h₀ h [] news) (hk : env.scope.kind = .class) (ha : env.locals = a)
    (hn : env.kindOf n = some .local ∨ env.kindOf n = none ∧ compilersOwnNames.contains n = true) (hi : news[i]? = some (a, ⟨.type "dict", none, .dict es.toArray m, #[]⟩)) (hr : aRefKeyMayBeTheName n es.toArray = false)
    (he : Obj.putName n (PyData.keyHash w.params n) (.str n t) v ⟨.type "dict", none, .dict es.toArray m, #[]⟩ = ⟨.type "dict", none, .dict (es' t).toArray m', #[]⟩)
    (x : ∀ h', Mem h₀ h' [] (news.set i (a, ⟨.type "dict", none, .dict (es' t).toArray m', #[]⟩)) → Q () ⟨h', g, d, t + 1, os⟩) : wpAny (model PG w) A (storeName env n v) Q E ⟨h, g, d, t, os⟩ := by
  have l : wpAny (model PG w) A (localSet env n v) Q E ⟨h, g, d, t, os⟩ := by
    unfold localSet
    rw [ha]
    refine wpAny_bind (wpAny_load (D.at i a _ hi) ?_)
    refine m_true rfl ?_
    exact m_nsSet (fun tk => ⟨.type "dict", none, .dict (es' tk).toArray m', #[]⟩) i D hi rfl hr he x
  unfold storeName
  rcases hn with hn | ⟨hn, hc⟩
  · simp only [hn, hk]
    exact l
  · have hb : env.blockKind = .class := by unfold Env.blockKind; rw [hk]; rfl
    simp only [hn, hk, hb, hc]
    exact l
theorem m_loadC {Q : Value → Shared → Prop} {env : Env} {a : Addr} {n : Str} {v : Value} {o : Obj} (ha : env.locals = a) (ho : h.get? a = some o) (hcl : o.cls = .type "dict") (hl : nsLook n o = pure none) (hk : env.scope.kind = .class) (hn : env.kindOf n = none) (hc : compilersOwnNames.contains n = true)
    (hg : h.Ns env.globals mg) (hv : mg n = some v) (x : Q v ⟨h, g, d, t, os⟩) : wpAny (model PG w) A (loadName env n) Q E ⟨h, g, d, t, os⟩ := by
  have hb : env.blockKind = .class := by unfold Env.blockKind; rw [hk]; rfl
  unfold loadName
  simp only [hn, hk, hb, hc]
  refine m_false rfl ?_
  refine m_false rfl ?_
  refine wpAny_bind ?_
  unfold localGet
  rw [ha]
  refine wpAny_bind (wpAny_load ho ?_)
  rw [hcl]
  refine m_true rfl ?_
  refine m_nsGet none ho hl ?_
  exact loadGlobal_global hg hv x
theorem set_mid {α : Type} (l1 l2 : List α) (x y : α) : (l1 ++ x :: l2).set l1.length y = l1 ++ y :: l2 := by
  induction l1 with
  | nil => rfl
  | cons a l ih => show a :: (l ++ x :: l2).set l.length y = _; rw [ih]; rfl
theorem get_mid {α : Type} (l1 l2 : List α) (x : α) : (l1 ++ x :: l2)[l1.length]? = some x := by
  induction l1 with
  | nil => rfl
  | cons a l ih => exact ih
noncomputable abbrev tupO (l : List Value) : Obj := { cls := .type "tuple", data := .seq l.toArray }
noncomputable abbrev lisO (l : List Value) : Obj := { cls := .type "list", data := .seq l.toArray }
noncomputable abbrev nsD (n : Nat) (es : List DictEntry) : Obj := ⟨.type "dict", none, .dict es.toArray n, #[]⟩
noncomputable abbrev cenvK (cs : Scope) (ns cc fr c : Addr) : Env := { scope := cs, locals := ns, globals := mainGlobals, cells := [(Str.ofString "mycmp", c)], qual := Str.ofString "cmp_to_key.<locals>.K" ++ Str.ofString ".", code := .ref cc, frame := some fr, builtins := builtinsNs }
theorem m_textTuple {Q : Value → Shared → Prop} {l : List Value} (D : Mem h₀ h [] news) (x : ∀ a h', Mem h₀ h' [] ((a, tupO l) :: news) → Q (.ref a) ⟨h', g, d, t, os⟩) : wpAny (model PG w) A (newTextTuple l) Q E ⟨h, g, d, t, os⟩ := by
  unfold newTextTuple newObjAsIs
  refine wpAny_bind (m_allocA D fun a h' D' => ?_)
  exact wpAny_pure (x a h' D')
theorem m_storeM {Q : Unit → Shared → Prop} {env : Env} {a : Addr} {n : Str} {v : Value} {es : List DictEntry} {m : Nat} {l1 l2 : List (Addr × Obj)} (es' : Tok → List DictEntry) (D : Mem h₀ h [] (l1 ++ (a, nsD m es) :: l2)) (hk : env.scope.kind = .class) (ha : env.locals = a)
    (hn : env.kindOf n = some .local ∨ env.kindOf n = none ∧ compilersOwnNames.contains n = true) (hr : aRefKeyMayBeTheName n es.toArray = false)
    (he : Obj.putName n (PyData.keyHash w.params n) (.str n t) v (nsD m es) = nsD (m + 1) (es' t))
    (x : ∀ h', Mem h₀ h' [] (l1 ++ (a, nsD (m + 1) (es' t)) :: l2) → Q () ⟨h', g, d, t + 1, os⟩) : wpAny (model PG w) A (storeName env n v) Q E ⟨h, g, d, t, os⟩ :=
  m_storeC (m + 1) es' l1.length D hk ha hn (get_mid _ _ _) hr he fun h' D' => x h' (by rw [set_mid] at D'; exact D')
theorem m_storeN {Q : Unit → Shared → Prop} {env : Env} {a : Addr} {n : Str} {v : Value} {es : List DictEntry} {m : Nat} (i : Nat) (D : Mem h₀ h [] news) (hk : env.scope.kind = .class) (ha : env.locals = a)
    (hn : env.kindOf n = some .local ∨ env.kindOf n = none ∧ compilersOwnNames.contains n = true) (hi : news[i]? = some (a, nsD m es)) (hr : aRefKeyMayBeTheName n es.toArray = false)
    (he : Obj.putName n (PyData.keyHash w.params n) (.str n t) v (nsD m es) = nsD (m + 1) (es ++ [ent w.params n t v]))
    (x : ∀ h', Mem h₀ h' [] (news.set i (a, nsD (m + 1) (es ++ [ent w.params n t v]))) → Q () ⟨h', g, d, t + 1, os⟩) : wpAny (model PG w) A (storeName env n v) Q E ⟨h, g, d, t, os⟩ :=
  m_storeC (m + 1) (fun tk => es ++ [ent w.params n tk v]) i D hk ha hn hi hr he x
theorem m_spl1 {Q : List Value → Shared → Prop} {x : Sem Value} (hx : wpAny (model PG w) A x (fun v s' => Q [v] s') E ⟨h, g, d, t, os⟩) : wpAny (model PG w) A (spliced [(false, x)]) Q E ⟨h, g, d, t, os⟩ := by
  show wpAny _ _ (x >>= fun v => _) _ _ _
  refine wpAny_bind (wpAny_mono hx (fun v s' h' => ?_) fun _ _ y => y)
  obtain ⟨h', g', d', t', os'⟩ := s'
  refine m_false rfl ?_
  refine wpAny_bind (wpAny_pure ?_)
  refine wpAny_bind (wpAny_holding (m_is [] rfl ?_))
  exact wpAny_pure h'
noncomputable def sel {α : Type} (l : List α) (d : α) (i : Nat) : α := l.getD i d
noncomputable abbrev kE3 (P : Params) (t1 t2 t3 t4 t5 : Tok) (vn : Value) : List DictEntry := [ent P (Str.ofString "__module__") t1 vn, ent P (Str.ofString "__qualname__") t2 (.str (Str.ofString "cmp_to_key.<locals>.K") t3), ent P (Str.ofString "__firstlineno__") t4 (.int 725 t5)]
noncomputable abbrev kE11 (P : Params) (k v : Nat → Tok) (f : Nat → Addr) (sl : Addr) : List DictEntry :=
  [ent P (Str.ofString "__module__") (k 0) (.str (Str.ofString "cpy313.functools") (v 0)), ent P (Str.ofString "__qualname__") (k 1) (.str (Str.ofString "cmp_to_key.<locals>.K") (v 1)), ent P (Str.ofString "__firstlineno__") (k 2) (.int 725 (v 2)),
    ent P (Str.ofString "__slots__") (k 3) (.ref sl), ent P (Str.ofString "__init__") (k 4) (.ref (f 0)), ent P (Str.ofString "__lt__") (k 5) (.ref (f 1)), ent P (Str.ofString "__gt__") (k 6) (.ref (f 2)), ent P (Str.ofString "__eq__") (k 7) (.ref (f 3)),
    ent P (Str.ofString "__le__") (k 8) (.ref (f 4)), ent P (Str.ofString "__ge__") (k 9) (.ref (f 5)), ent P (Str.ofString "__hash__") (k 10) .none]
noncomputable def upd (k : Nat → Tok) (i : Nat) (t : Tok) : Nat → Tok := fun j => if j = i then t else k j
theorem bc {Q : Value → Shared → Prop} {cb : List Stmt} {cs : Scope} {env : Env} {pos : Pos} {c : Addr} {rest0 : List (Addr × Obj)} {I : Addr → List (Addr × Obj) → List (Addr × Obj) → Prop} {J : (Nat → Addr) → List (Addr × Obj) → List (Addr × Obj) → Prop}
    (T : Top p loose mean mg mb base) (kB : ∀ b o, base.get? b = some o → h₀.get? b = some o) (D : Mem h₀ h [] rest0) {oz : Obj} (hz : (728, oz) ∈ rest0)
    (hgl : env.globals = mainGlobals) (hbn : env.builtins = builtinsNs) (hclo : closureFor cs env = pure [(Str.ofString "mycmp", c)])
    (hk : cs.kind = .class) (h1 : (cs.names.lookup (Str.ofString "__class__") == some NameKind.cell) = false) (h2 : (cs.names.lookup (Str.ofString "__classdict__") == some NameKind.cell) = false)
    (hdep : A.depth < recursionLimit) {vn : Value} (hname : mg (Str.ofString "__name__") = some vn) (n0 : cs.names.lookup (Str.ofString "__name__") = none) (n1 : cs.names.lookup (Str.ofString "__module__") = some .local) (n2 : cs.names.lookup (Str.ofString "__qualname__") = none)
    (n3 : cs.names.lookup (Str.ofString "__firstlineno__") = none) (n4 : cs.names.lookup (Str.ofString "__static_attributes__") = none)
    {oSt : Obj} (hst : h₀.get? cStatics = some oSt) (hno : nsLook (Str.ofString "thirdparty.any") oSt = pure none)
    (hcc : ∀ bt pb ns h' t' (Q' : Value → Shared → Prop) (E' : Value → Shared → Prop), Mem h₀ h' [] ((ns, nsD 0 []) :: (pb, prepO) :: (bt, tupO [.type "object"]) :: rest0) →
      (∀ cc l rest1 h'' tk, I cc l rest1 → Mem h₀ h'' [] (l ++ (ns, nsD 0 []) :: (pb, prepO) :: (bt, tupO [.type "object"]) :: rest1) → Q' (.ref cc) ⟨h'', g, d, tk, os⟩) → wpAny (model PG w) A (classCode env pos 725 (Str.ofString "K") (Str.ofString "cmp_to_key.<locals>.K") cs) Q' E' ⟨h', g, d, t', os⟩)
    (hbody : ∀ cc l rest1 ns pb bt fr ofr t1 t2 t3 t4 t5 h' t' (Q' : Flow → Shared → Prop) (E' : Value → Shared → Prop), I cc l rest1 → Mem h₀ h' [] ((fr, ofr) :: l ++ (ns, nsD 3 (kE3 w.params t1 t2 t3 t4 t5 vn)) :: (pb, prepO) :: (bt, tupO [.type "object"]) :: rest1) →
      (∀ k v f (fo : Nat → Obj) sl ts more h'' tk, J f more rest1 → (sl, lisO [.str (Str.ofString "obj") ts]) ∈ more → (∀ i, (f i, fo i) ∈ more ∧ (fo i).cls = .type "function") → Mem h₀ h'' [] (more ++ (ns, nsD 11 (kE11 w.params k v f sl)) :: (pb, prepO) :: (bt, tupO [.type "object"]) :: rest1) → Q' .next ⟨h'', g, d, tk, os⟩) →
      wpAny (model PG w) A (run (.body cb (cenvK cs ns cc fr c))) Q' E' ⟨h', g, d, t', os⟩)
    (x : ∀ a nd md so bm tm to td t0 ts k v f sl stt bt pb ns more rest1 n h1 h' t', J f more rest1 → Mem h₀ h1 [] ((stt, tupO [.str (Str.ofString "obj") ts]) :: more ++ (ns, n) :: (pb, prepO) :: (bt, tupO [.type "object"]) :: rest1) →
      Mem h1 h' [] [(bm, bimO a), (so, supO a), (md, memO a tm), (a, clsK bt a nd t0 (v 1)), (nd, kD w.params k v f sl stt [ent w.params (Str.ofString "obj") to (.ref md), ent w.params (Str.ofString "__doc__") td .none] 3)] → Q (.ref a) ⟨h', g, d, t', os⟩) :
    wpAny (model PG w) A (buildClass (Str.ofString "K") (Str.ofString "cmp_to_key.<locals>.K") [.type "object"] [] cb cs [Str.ofString "obj"] 725 env pos none) Q E ⟨h, g, d, t, os⟩ := by
  have kD : ∀ {h' : Heap} {n : List (Addr × Obj)}, Mem h₀ h' [] n → ∀ b o, h₀.get? b = some o → h'.get? b = some o := fun D b o e => D.keep b o e (by simp [away])
  have kT : ∀ {h' : Heap} {n : List (Addr × Obj)}, Mem h₀ h' [] n → ∀ b o, base.get? b = some o → h'.get? b = some o := fun D b o e => kD D b o (kB b o e)
  delta buildClass
  refine wpAny_bind (m_newObj D fun bt h D => ?_)
  refine wpAny_bind (m_for (wpAny_bind (m_is true rfl ?_)))
  refine m_true rfl ?_
  refine m_no (by decide) ?_
  refine wpAny_pure ?_
  refine m_forNil ?_
  refine wpAny_bind (m_is (.type "type") rfl ?_)
  refine wpAny_bind (m_is true rfl ?_)
  refine m_true rfl ?_
  refine wpAny_bind (m_for (wpAny_bind (m_is (.type "type") rfl ?_)))
  refine wpAny_bind (m_is true (by rw [isSubtype_type]; kernel_rfl) ?_)
  refine m_true rfl ?_
  refine wpAny_pure ?_
  refine m_forNil ?_
  refine wpAny_bind (wpAny_mkText ?_)
  refine m_false (c := false) rfl ?_
  refine wpAny_bind (wpAny_pure ?_)
  refine wpAny_holding ?_
  refine wpAny_bind (m_prepare D fun pb h D => ?_)
  refine wpAny_bind (call_prep D (D.at 0 _ _ rfl) fun ns h D => ?_)
  have hsm : (ns == sysModules) = false := by
    have q : 728 < ns := by
      have o := D.ord
      rw [List.map_cons, List.pairwise_cons] at o
      exact o.1 728 (List.mem_map.mpr ⟨_, .tail _ (.tail _ hz), rfl⟩)
    have q2 : ns ≠ sysModules := by show ns ≠ 1; exact Nat.ne_of_gt (Nat.lt_trans (by decide) q)
    simp [q2]
  refine wpAny_bind ?_
  delta notTheModulesDict
  refine m_false hsm ?_
  refine wpAny_pure ?_
  refine wpAny_bind (m_special (some (.builtin "dict.__getitem__")) (D.at 0 _ _ rfl) rfl (by kernel_rfl) ?_)
  refine m_false rfl ?_
  refine wpAny_holding ?_
  refine m_false h1 ?_
  refine wpAny_bind (wpAny_pure ?_)
  refine m_false h2 ?_
  refine wpAny_bind (wpAny_pure ?_)
  show wpAny _ _ (classCode env pos 725 (Str.ofString "K") (Str.ofString "cmp_to_key.<locals>.K") cs >>= _) _ _ _
  refine wpAny_bind (hcc _ _ _ _ _ _ _ D fun cc l rest1 h tk hI D => ?_)
  rw [hgl, hbn]
  obtain ⟨bm, ob, b1, b2, b3, b4, b5, b6⟩ := T.bmain
  refine wpAny_bind (wpAny_builtinsFor (T.g.keeps (kT D)) b1 b2 (kT D _ _ b3) b4 b5 b6 ?_)
  refine wpAny_bind ?_
  delta newBodyFrame
  refine wpAny_bind (wpAny_nsGet (T.g.keeps (kT D)) ?_)
  refine m_allocA D fun fr h D => ?_
  refine wpAny_bind (m_is _ hclo ?_)
  refine wpAny_holding ?_
  refine wpAny_bind (wpAny_enterFrame (T.nolimit.keeps (kT D)) hdep ?_)
  refine wpAny_bind (wpAny_onRaise ?_)
  have D : Mem h₀ h [] (((fr, _) :: l) ++ (ns, nsD 0 []) :: (pb, prepO) :: (bt, tupO [.type "object"]) :: rest1) := D
  refine wpAny_bind (m_loadC (mg := mg) (a := ns) rfl (D.at (((fr, _) :: l).length) _ _ (get_mid _ _ _)) rfl (by kernel_rfl) hk n0 (by decide +kernel) (T.g.keeps (kT D)) hname ?_)
  refine wpAny_bind (m_storeM (fun tk => [ent w.params (Str.ofString "__module__") tk vn]) D hk rfl (.inl n1) (by kernel_rfl) (by kernel_rfl) fun h D => ?_)
  refine wpAny_bind (wpAny_mkText ?_)
  refine wpAny_bind (m_storeM (fun tk' => [ent w.params (Str.ofString "__module__") tk vn, ent w.params (Str.ofString "__qualname__") tk' (.str (Str.ofString "cmp_to_key.<locals>.K") (tk + 1))]) D hk rfl (.inr ⟨n2, by decide +kernel⟩) (by kernel_rfl) (by kernel_rfl) fun h D => ?_)
  refine wpAny_bind (wpAny_mkInt ?_)
  refine wpAny_bind (m_storeM (fun tk' => [ent w.params (Str.ofString "__module__") tk vn, ent w.params (Str.ofString "__qualname__") (tk + 2) (.str (Str.ofString "cmp_to_key.<locals>.K") (tk + 1)), ent w.params (Str.ofString "__firstlineno__") tk' (.int 725 (tk + 3))]) D hk rfl (.inr ⟨n3, by decide +kernel⟩) (by kernel_rfl) (by kernel_rfl) fun h D => ?_)
  refine wpAny_pure ?_
  refine wpAny_bind (hbody cc l rest1 ns pb bt fr _ _ _ _ _ _ _ _ _ _ hI D fun k v f fo sl ts more h tk hJ hsl hf D => ?_)
  refine wpAny_bind (wpAny_onRaise ?_)
  rw [show List.mapM mkText [Str.ofString "obj"] = (do let v ← mkText (Str.ofString "obj"); pure [v]) from by simp [List.mapM_cons]]
  refine wpAny_bind (wpAny_bind (wpAny_mkText (wpAny_pure ?_)))
  refine wpAny_bind (m_textTuple D fun stt h D => ?_)
  have D : Mem h₀ h [] (((stt, _) :: more) ++ (ns, nsD 11 (kE11 w.params k v f sl)) :: (pb, prepO) :: (bt, tupO [.type "object"]) :: rest1) := D
  refine wpAny_bind (m_storeM (fun tk' => kE w.params (upd k 11 tk') v f sl stt) D hk rfl (.inr ⟨n4, by decide +kernel⟩) (by kernel_rfl) (by kernel_rfl) fun h D => ?_)
  refine wpAny_pure ?_
  refine m_false rfl ?_
  refine wpAny_bind ?_
  show wpAny _ _ (call (.type "type") [.str (Str.ofString "K") _, .ref bt, .ref ns]) _ _ _
  refine call_type3 fun A' Q' E' hQ => ?_
  have at' : ∀ q ∈ ((stt, tupO [.str (Str.ofString "obj") tk]) :: more) ++ (ns, nsD 12 (kE w.params (upd k 11 (tk + 1)) v f sl stt)) :: (pb, prepO) :: (bt, tupO [.type "object"]) :: rest1, h.get? q.1 = some q.2 := fun q hq => (D.nw q hq).1
  refine tn (s := ⟨h, g, d, _, os⟩) (at' (ns, _) (List.mem_append_right _ (.head _))) (at' (bt, _) (List.mem_append_right _ (.tail _ (.tail _ (.head _))))) (at' (sl, _) (List.mem_append_left _ (.tail _ hsl))) hsm (kD D _ _ hst) hno (fun i => ⟨at' (f i, fo i) (List.mem_append_left _ (.tail _ (hf i).1)), (hf i).2⟩) (at' (stt, _) (.head _)) fun a nd md so bm h' t' tm to td D2 => ?_
  refine hQ a h' t' ⟨_, _, D2.at 3 _ _ rfl, rfl, rfl⟩ ?_
  exact wpAny_pure (x a nd md so bm tm to td _ _ (upd k 11 (tk + 1)) v f sl stt bt pb ns more rest1 _ h h' t' hJ D D2)
end
end
section
theorem fill_Ct : PySem.Challenge.rw_ij0136_01 = PySem.Challenge.rw_ij0136_01 ∧ pre.heap_1 = pre.heap_1 := by
  k_fill
  exact ⟨rfl, rfl⟩
open PySem.W.X PySem.Builtin
theorem exec_class (name : Str) (b : Str) (bp : Pos) (body : List Stmt) (scope : Scope) (bind : Str) (statics : List Str) (pos : Pos) (env : Env) :
    exec (.ClassDef name [.Name b bp] [] body [] [] scope none bind statics pos) env = (do
      let decos ← evalAll (evalEach [] env)
      standAt pos
      buildClassGuard env
      let c ← holding decos do
        let a ← evalArgs (.builtin "__build_class__") false (backTo pos (starEach [.Name b bp] env)) (backToKw pos (keywordEach [] env))
        standAt pos
        holding (a.pos ++ a.kw.map (·.2)) (buildClass name (qualnameIn env name bind) a.pos a.kw body scope statics (firstLineOf [] pos) env pos none)
      let c ← decorate (decos.zip ((List.map (·.pos) ([] : List Expr)))).reverse c
      standAt pos
      bindName env bind c
      pure .next) := rfl
noncomputable def kStmts (P : Params) : List Stmt := match (pre.heap_1 P).lookup 733 with
  | some ⟨_, _, .func fd, _⟩ => (match fd.body with | .stmts (.ClassDef _ _ _ b _ _ _ _ _ _ _ :: _) => b | _ => [])
  | _ => []
noncomputable def kSt (P : Params) (i : Nat) : Stmt := (kStmts P).getD (i + 2) (.Pass ⟨0, 0, 0, 0⟩)
noncomputable def kName (P : Params) (i : Nat) : Str := match kSt P i with | .FunctionDef n _ _ _ _ _ _ _ _ _ => n | _ => Str.ofString ""
noncomputable def kQual (P : Params) (i : Nat) : Str := Str.ofString "cmp_to_key.<locals>.K" ++ Str.ofString "." ++ kName P i
noncomputable def kPars (P : Params) (i : Nat) : Arguments := match kSt P i with | .FunctionDef _ a _ _ _ _ _ _ _ _ => a | _ => ⟨[], [], none, [], [], none, []⟩
noncomputable def kBody (P : Params) (i : Nat) : List Stmt := match kSt P i with | .FunctionDef _ _ b _ _ _ _ _ _ _ => b | _ => []
noncomputable def kScope (P : Params) (i : Nat) : Scope := match kSt P i with | .FunctionDef _ _ _ _ _ _ s _ _ _ => s | _ => { kind := .function, names := [], isGenerator := false, isCoroutine := false }
noncomputable def kLine (P : Params) (i : Nat) : Int := match kSt P i with | .FunctionDef _ _ _ _ _ _ _ _ _ p => p.line | _ => 0
noncomputable def kCol (P : Params) (i : Nat) : Int := match kSt P i with | .FunctionDef _ _ _ _ _ _ _ _ _ p => p.col | _ => 0
noncomputable abbrev kFn (P : Params) (i : Nat) (cell : Addr) (doc vn : Value) (c' : Addr) (ctv : Value) : Obj :=
  fnMade (kName P i) (kQual P i) (kPars P i) (kBody P i) (kScope P i) (if i = 0 then [] else [(Str.ofString "mycmp", cell)]) doc vn c' ctv
noncomputable abbrev tri (P : Params) (c' : Nat → Addr) (i : Nat) : List Value := [rawInt (kLine P i), rawInt (kCol P i), .ref (c' i)]
noncomputable def kTab (P : Params) (c' : Nat → Addr) : List Value := tri P c' 0 ++ tri P c' 1 ++ tri P c' 2 ++ tri P c' 3 ++ tri P c' 4 ++ tri P c' 5
noncomputable def I1 (v : Value) (c L : Addr) (cc : Addr) (l rest1 : List (Addr × Obj)) : Prop :=
  ∃ oc PP, l = [(cc, oc), (PP, tabL [])] ∧ (∀ h : Heap, h.get? cc = some oc → CodeHd h cc PP) ∧ rest1 = [(c, cellO (some v)), (L, frmO), (728, tabL [rawInt 725, rawInt 4, .ref cc])]
noncomputable def J1 (P : Params) (v vn : Value) (c L : Addr) (f : Nat → Addr) (more rest1 : List (Addr × Obj)) : Prop :=
  ∃ (c' : Nat → Addr) (oc : Nat → Obj) (doc ctv : Nat → Value) (cc : Addr) (ocK : Obj) (PP : Addr), (∀ i, i < 6 → (f i, kFn P i c (doc i) vn (c' i) (ctv i)) ∈ more) ∧ (∀ i, i < 6 → (c' i, oc i) ∈ more ∧ ∃ vs t, (oc i).data = .fields vs ∧ vs[1]? = some (.str (kQual P i) t)) ∧
    (cc, ocK) ∈ more ∧ (∀ h : Heap, h.get? cc = some ocK → CodeHd h cc PP) ∧ (PP, tabL (kTab P c')) ∈ more ∧ rest1 = [(c, cellO (some v)), (L, frmO), (728, tabL [rawInt 725, rawInt 4, .ref cc])]
noncomputable abbrev kLed (P : Params) (vn v : Value) (a nd md c bt sl stt : Addr) (f c' : Nat → Addr) (doc ctv : Nat → Value) (k vv : Nat → Tok) (tm to td t0 tq : Tok) : List (Addr × Obj) :=
  [(a, clsK bt a nd t0 tq), (nd, kD P k vv f sl stt [ent P (Str.ofString "obj") to (.ref md), ent P (Str.ofString "__doc__") td .none] 3), (md, memO a tm), (c, cellO (some v)),
    (f 0, kFn P 0 c (doc 0) vn (c' 0) (ctv 0)), (f 1, kFn P 1 c (doc 1) vn (c' 1) (ctv 1)), (f 2, kFn P 2 c (doc 2) vn (c' 2) (ctv 2)), (f 3, kFn P 3 c (doc 3) vn (c' 3) (ctv 3)), (f 4, kFn P 4 c (doc 4) vn (c' 4) (ctv 4)), (f 5, kFn P 5 c (doc 5) vn (c' 5) (ctv 5))]
noncomputable abbrev cLed (c' : Nat → Addr) (oc : Nat → Obj) : List (Addr × Obj) := [(c' 0, oc 0), (c' 1, oc 1), (c' 2, oc 2), (c' 3, oc 3), (c' 4, oc 4), (c' 5, oc 5)]
noncomputable def CodeOf (o : Obj) (q : Str) : Prop := ∃ vs t, o.data = .fields vs ∧ vs[1]? = some (.str q t)
theorem kept_hide {as : List Addr} {h h' : Heap} (k : ∀ b o, (hideAll h as).get? b = some o → h'.get? b = some o) : Kept as h h' := fun b o e n => k b o (hideAll_get _ e n)
theorem none_hide {as : List Addr} {h : Heap} {b : Addr} (e : (hideAll h as).get? b = none) : b ∈ as ∨ h.get? b = none := by
  by_cases m : b ∈ as
  · exact .inl m
  · cases q : h.get? b with
    | none => exact .inr rfl
    | some o => rw [hideAll_get _ q m] at e; cases e
theorem nfr {o : Obj} {x : String} (e : o.cls = .type x) (n : x ≠ "frame") : o ≠ frmO := fun q => by rw [q] at e; cases e; exact n rfl
theorem nfr0 {o : Obj} (e : o.cls = .none) : o ≠ frmO := fun q => by rw [q] at e; cases e
theorem nfrF {o : Obj} {vs : Array Value} (e : o.data = .fields vs) : o ≠ frmO := fun q => by rw [q] at e; cases e
noncomputable def I2 (v : Value) (c L PP cc0 : Addr) (T0 : Obj) (cc : Addr) (l rest1 : List (Addr × Obj)) : Prop :=
  l = [] ∧ cc = cc0 ∧ rest1 = [(c, cellO (some v)), (L, frmO), (PP, T0), (728, tabL [rawInt 725, rawInt 4, .ref cc])]
noncomputable def J2 (P : Params) (v vn : Value) (c L PP cc : Addr) (T0 : Obj) (c' : Nat → Addr) (f : Nat → Addr) (more rest1 : List (Addr × Obj)) : Prop :=
  ∃ (doc ctv : Nat → Value), (∀ i, i < 6 → (f i, kFn P i c (doc i) vn (c' i) (ctv i)) ∈ more) ∧ rest1 = [(c, cellO (some v)), (L, frmO), (PP, T0), (728, tabL [rawInt 725, rawInt 4, .ref cc])]
theorem c_ctk1 {base : Heap} {s : Shared} {R : Result → Shared → Prop} {v : Value}
    (B : Below (ar dp un gd outs) base outs s.heap) (X : (pre.heap_1 w.params).In base) (TT : Top p loose mean mg mb base) (hV : ∀ x ∈ ([(728, tabL [])] : List (Addr × Obj)), base.get? x.1 = none) (D : Mem (hideAll s.heap (([(728, tabL [])] : List (Addr × Obj)).map (·.1))) s.heap [] [(728, tabL [])])
    (C : CodeHd base 732 728) (hdp : dp + 5 < recursionLimit) (hu : un + 40 < cLine)
    (ret : ∀ (a nd md c cc PP bt sl stt : Addr) (f c' : Nat → Addr) (oc : Nat → Obj) (doc ctv : Nat → Value) (ocK : Obj) (k vv : Nat → Tok) (tm to td t0 tq : Tok) h' tk', @LT.lt Nat _ 728 PP → Kept [728] s.heap h' → (∀ i, i < 6 → CodeOf (oc i) (kQual w.params i)) → (∀ h : Heap, h.get? cc = some ocK → CodeHd h cc PP) →
      (∀ q ∈ kLed w.params ((mg (Str.ofString "__name__")).getD .none) v a nd md c bt sl stt f c' doc ctv k vv tm to td t0 tq ++ cLed c' oc ++ [(cc, ocK), (PP, tabL (kTab w.params c')), (728, tabL [rawInt 725, rawInt 4, .ref cc])], h'.get? q.1 = some q.2 ∧ (q.1 ∈ [728] ∨ s.heap.get? q.1 = none)) →
      R (.ok (.ret (.ref a))) { s with heap := h', toks := tk' }) :
    codeAny (model PG w) (ar dp un gd outs) (.call (.ref 733) ⟨[v], []⟩) R s := by
  refine' enterC (led := [(728, tabL [])]) B X TT hV D ?k6 ?k7 ?k8 ?k9 ?kA ?_ ?c2 ?c3 ?c4
  case k6 => k_is
  case k7 => k_is
  case k8 => k_room
  case k9 => exact BindsTo.of_eq rfl
  case kA => exact rfl
  case c2 => exact rfl
  case c3 => exact rfl
  case c4 => exact rfl
  intro L c h₁ D
  have kB : ∀ b o, base.get? b = some o → (hideAll s.heap (([(728, tabL [])] : List (Addr × Obj)).map (·.1))).get? b = some o := fun b o e => hideAll_get _ (B.stays b o e) fun q => by
    obtain ⟨z, hz, e'⟩ := List.mem_map.mp q
    rw [← e', hV z hz] at e; cases e
  have kH : ∀ b o, base.get? b = some o → h₁.get? b = some o := fun b o e => D.keep b o (kB b o e) (by simp [away])
  refine wpAny_execs_cons ?_
  rw [exec_class]
  generalize hE : (fun (e : Value) (s' : Shared) => wpAny (model PG w) _ (leaving _ e) _ _ s') = EE
  refine wpAny_bind (m_is [] rfl ?_)
  refine wpAny_bind (wpAny_standAt ?_)
  refine wpAny_bind ?_
  delta buildClassGuard
  refine wpAny_bind (wpAny_nsGet (TT.b.keeps kH) ?_)
  rw [TT.builtins _ (by decide), show bootBuiltins (Str.ofString "__build_class__") = some (.builtin "__build_class__") from by kernel_rfl]
  refine wpAny_pure ?_
  refine wpAny_bind (wpAny_holding ?_)
  refine wpAny_bind ?_
  delta evalArgs
  refine wpAny_bind (wpAny_bind ?_)
  refine m_false rfl ?_
  refine' Name_function_global rfl rfl (loadGlobal_builtin (TT.g.keeps kH) (mg_none_of X TT.g ?kn) (TT.b.keeps kH) ((TT.builtins _ (by decide)).trans (show bootBuiltins (Str.ofString "object") = some (.type "object") from by kernel_rfl)) ?_) (by decide)
  case kn => k_is
  refine m_false rfl ?_
  refine wpAny_bind (wpAny_pure ?_)
  refine wpAny_bind (wpAny_holding (m_is [] rfl ?_))
  refine wpAny_pure ?_
  refine wpAny_pure ?_
  refine wpAny_bind (wpAny_standAt ?_)
  refine wpAny_holding ?_
  show wpAny _ _ (buildClass (Str.ofString "K") (qualnameIn _ _ _) [.type "object"] [] _ _ [Str.ofString "obj"] (firstLineOf [] _) _ _ none) _ _ _
  have hq : ∀ (sc : Scope), sc.names.lookup (Str.ofString "K") = some .local → qualnameIn (envX (Str.ofString "cmp_to_key") sc L 733 (Value.ref 732) [(Str.ofString "mycmp", c)]) (Str.ofString "K") (Str.ofString "K") = Str.ofString "cmp_to_key.<locals>.K" := fun sc e => by
    unfold qualnameIn Env.kindOf
    rw [e]
    kernel_rfl
  rw [hq _ rfl]
  refine' bc (c := c) (I := I1 v c L) (J := J1 w.params v ((mg (Str.ofString "__name__")).getD .none) c L) TT kB D ?hz rfl rfl ?hclo rfl ?g1 ?g2 ?hdep ?hname ?n0 ?n1 ?n2 ?n3 ?n4 ?hst ?hno ?hcc ?hbody ?hx
  case hz => exact .tail _ (.tail _ (.head _))
  case hclo => kernel_rfl
  case g1 => kernel_rfl
  case g2 => kernel_rfl
  case hdep => k_room
  case hname => exact mg_of X TT.g (by k_is)
  case n0 => kernel_rfl
  case n1 => kernel_rfl
  case n2 => kernel_rfl
  case n3 => kernel_rfl
  case n4 => kernel_rfl
  case hst => exact kB _ _ (X _ _ (by k_is))
  case hno => kernel_rfl
  case hcc =>
    intro bt pb ns h' t' Q' E' D x
    refine m_clsL (fr := [Str.ofString "mycmp"]) 5 D rfl rfl (C.keeps fun b o e => D.keep b o (kB b o e) (by simp [away])) trivial rfl (by kernel_rfl) fun cc PP oc h tk D HC => ?_
    exact x cc [(cc, oc), (PP, tabL [])] _ h tk ⟨oc, PP, rfl, HC, rfl⟩ D
  case hbody =>
    intro cc l rest1 ns pb bt fr ofr t1 t2 t3 t4 t5 h' t' Q' E' hI D x
    obtain ⟨oc, PP, rfl, HC, rfl⟩ := hI
    have D : Mem _ h' [] [(fr, ofr), (cc, oc), (PP, tabL []), (ns, nsD 3 _), (pb, prepO), (bt, tupO [.type "object"]), (c, cellO (some v)), (L, frmO), (728, tabL ([] ++ [rawInt 725, rawInt 4, .ref cc]))] := D
    refine wpAny_run (codeAny_body rfl rfl ?_)
    refine wpAny_execs_cons ?_
    rw [exec_Assign_Name (hs := rfl)]
    refine wpAny_bind (wpAny_standAt ?_)
    refine wpAny_bind (wpAny_mkText ?_)
    refine wpAny_bind (wpAny_standAt ?_)
    refine wpAny_bind (wpAny_bindName ?_)
    refine m_storeC 3 (fun _ => [ent w.params (Str.ofString "__module__") t1 (.str (Str.ofString "cpy313.functools") t'), ent w.params (Str.ofString "__qualname__") t2 (.str (Str.ofString "cmp_to_key.<locals>.K") t3), ent w.params (Str.ofString "__firstlineno__") t4 (.int 725 t5)]) 3 D rfl rfl (.inl rfl) rfl (by kernel_rfl) (by kernel_rfl) fun h D => ?_
    dsimp only [List.set] at D
    refine wpAny_pure ?_
    refine wpAny_execs_cons ?_
    rw [exec_Assign_Name (hs := rfl)]
    refine wpAny_bind (wpAny_standAt ?_)
    refine wpAny_bind ?_
    show wpAny _ _ (standAt _ >>= fun _ => (spliced [(false, mkText (Str.ofString "obj"))] >>= fun vs => newList vs)) _ _ _
    refine wpAny_bind (wpAny_standAt ?_)
    refine wpAny_bind (m_spl1 (wpAny_mkText ?_))
    refine m_newObj D fun sl h D => ?_
    refine wpAny_bind (wpAny_standAt ?_)
    refine wpAny_bind (wpAny_bindName ?_)
    refine m_storeN 4 D rfl rfl (.inl rfl) rfl (by kernel_rfl) (by kernel_rfl) fun h D => ?_
    dsimp only [List.set] at D
    refine wpAny_pure ?_
    refine wpAny_execs_cons ?_
    refine nestDef_K rfl rfl rfl ?_
    refine m_fnL (clos := []) TT kB 3 D rfl (by kernel_rfl) rfl rfl (HC _ (D.at 2 _ _ rfl)) trivial rfl fun f0 c0 o0 v0 q0 z0 d0 h y0 D hd0 hv0 => ?_
    dsimp only [List.set] at D
    refine m_storeN 6 D rfl rfl (.inl rfl) rfl (by kernel_rfl) (by kernel_rfl) fun h D => ?_
    dsimp only [List.set] at D
    refine wpAny_execs_cons ?_
    refine nestDef_K rfl rfl rfl ?_
    refine m_fnL (clos := [(Str.ofString "mycmp", c)]) TT kB 5 D rfl (by kernel_rfl) rfl rfl (HC _ (D.at 4 _ _ rfl)) trivial rfl fun f1 c1 o1 v1 q1 z1 d1 h y1 D hd1 hv1 => ?_
    dsimp only [List.set] at D
    refine m_storeN 8 D rfl rfl (.inl rfl) rfl (by kernel_rfl) (by kernel_rfl) fun h D => ?_
    dsimp only [List.set] at D
    refine wpAny_execs_cons ?_
    refine nestDef_K rfl rfl rfl ?_
    refine m_fnL (clos := [(Str.ofString "mycmp", c)]) TT kB 7 D rfl (by kernel_rfl) rfl rfl (HC _ (D.at 6 _ _ rfl)) trivial rfl fun f2 c2 o2 v2 q2 z2 d2 h y2 D hd2 hv2 => ?_
    dsimp only [List.set] at D
    refine m_storeN 10 D rfl rfl (.inl rfl) rfl (by kernel_rfl) (by kernel_rfl) fun h D => ?_
    dsimp only [List.set] at D
    refine wpAny_execs_cons ?_
    refine nestDef_K rfl rfl rfl ?_
    refine m_fnL (clos := [(Str.ofString "mycmp", c)]) TT kB 9 D rfl (by kernel_rfl) rfl rfl (HC _ (D.at 8 _ _ rfl)) trivial rfl fun f3 c3 o3 v3 q3 z3 d3 h y3 D hd3 hv3 => ?_
    dsimp only [List.set] at D
    refine m_storeN 12 D rfl rfl (.inl rfl) rfl (by kernel_rfl) (by kernel_rfl) fun h D => ?_
    dsimp only [List.set] at D
    refine wpAny_execs_cons ?_
    refine nestDef_K rfl rfl rfl ?_
    refine m_fnL (clos := [(Str.ofString "mycmp", c)]) TT kB 11 D rfl (by kernel_rfl) rfl rfl (HC _ (D.at 10 _ _ rfl)) trivial rfl fun f4 c4 o4 v4 q4 z4 d4 h y4 D hd4 hv4 => ?_
    dsimp only [List.set] at D
    refine m_storeN 14 D rfl rfl (.inl rfl) rfl (by kernel_rfl) (by kernel_rfl) fun h D => ?_
    dsimp only [List.set] at D
    refine wpAny_execs_cons ?_
    refine nestDef_K rfl rfl rfl ?_
    refine m_fnL (clos := [(Str.ofString "mycmp", c)]) TT kB 13 D rfl (by kernel_rfl) rfl rfl (HC _ (D.at 12 _ _ rfl)) trivial rfl fun f5 c5 o5 v5 q5 z5 d5 h y5 D hd5 hv5 => ?_
    dsimp only [List.set] at D
    refine m_storeN 16 D rfl rfl (.inl rfl) rfl (by kernel_rfl) (by kernel_rfl) fun h D => ?_
    dsimp only [List.set] at D
    refine wpAny_execs_cons ?_
    rw [exec_Assign_Name (hs := rfl)]
    refine wpAny_bind (wpAny_standAt ?_)
    refine wpAny_bind (m_is .none rfl ?_)
    refine wpAny_bind (wpAny_standAt ?_)
    refine wpAny_bind (wpAny_bindName ?_)
    refine m_storeN 16 D rfl rfl (.inl rfl) rfl (by kernel_rfl) (by kernel_rfl) fun h D => ?_
    dsimp only [List.set] at D
    refine wpAny_pure ?_
    refine wpAny_execs_nil ?_
    have D2 : Mem (hideAll s.heap (([(728, tabL [])] : List (Addr × Obj)).map (·.1))) h [] ([(f5, kFn w.params 5 c d5 ((mg (Str.ofString "__name__")).getD .none) c5 z5), (c5, o5), (f4, kFn w.params 4 c d4 ((mg (Str.ofString "__name__")).getD .none) c4 z4), (c4, o4), (f3, kFn w.params 3 c d3 ((mg (Str.ofString "__name__")).getD .none) c3 z3), (c3, o3), (f2, kFn w.params 2 c d2 ((mg (Str.ofString "__name__")).getD .none) c2 z2), (c2, o2), (f1, kFn w.params 1 c d1 ((mg (Str.ofString "__name__")).getD .none) c1 z1), (c1, o1), (f0, kFn w.params 0 c d0 ((mg (Str.ofString "__name__")).getD .none) c0 z0), (c0, o0), (sl, lisO [.str (Str.ofString "obj") (t' + 2)]), (fr, ofr), (cc, oc), (PP, tabL (kTab w.params (sel [c0, c1, c2, c3, c4, c5] 0)))] ++ (ns, nsD 11 (kE11 w.params (sel [t1, t2, t4, t' + 3, y0, y1, y2, y3, y4, y5, y5 + 1] 0) (sel [t', t3, t5] 0) (sel [f0, f1, f2, f3, f4, f5] f5) sl)) :: (pb, prepO) :: (bt, tupO [.type "object"]) :: [(c, cellO (some v)), (L, frmO), (728, tabL [rawInt 725, rawInt 4, .ref cc])]) := cast (by kernel_rfl) D
    refine x (sel [t1, t2, t4, t' + 3, y0, y1, y2, y3, y4, y5, y5 + 1] 0) (sel [t', t3, t5] 0) (sel [f0, f1, f2, f3, f4, f5] f5) (sel [kFn w.params 0 c d0 ((mg (Str.ofString "__name__")).getD .none) c0 z0, kFn w.params 1 c d1 ((mg (Str.ofString "__name__")).getD .none) c1 z1, kFn w.params 2 c d2 ((mg (Str.ofString "__name__")).getD .none) c2 z2, kFn w.params 3 c d3 ((mg (Str.ofString "__name__")).getD .none) c3 z3, kFn w.params 4 c d4 ((mg (Str.ofString "__name__")).getD .none) c4 z4, kFn w.params 5 c d5 ((mg (Str.ofString "__name__")).getD .none) c5 z5] (kFn w.params 5 c d5 ((mg (Str.ofString "__name__")).getD .none) c5 z5)) sl (t' + 2) [(f5, kFn w.params 5 c d5 ((mg (Str.ofString "__name__")).getD .none) c5 z5), (c5, o5), (f4, kFn w.params 4 c d4 ((mg (Str.ofString "__name__")).getD .none) c4 z4), (c4, o4), (f3, kFn w.params 3 c d3 ((mg (Str.ofString "__name__")).getD .none) c3 z3), (c3, o3), (f2, kFn w.params 2 c d2 ((mg (Str.ofString "__name__")).getD .none) c2 z2), (c2, o2), (f1, kFn w.params 1 c d1 ((mg (Str.ofString "__name__")).getD .none) c1 z1), (c1, o1), (f0, kFn w.params 0 c d0 ((mg (Str.ofString "__name__")).getD .none) c0 z0), (c0, o0), (sl, lisO [.str (Str.ofString "obj") (t' + 2)]), (fr, ofr), (cc, oc), (PP, tabL (kTab w.params (sel [c0, c1, c2, c3, c4, c5] 0)))] h _ ?hJ ?hsl ?hf D2
    case hsl => exact List.mem_of_getElem? (i := 12) rfl
    case hf =>
      intro i
      rcases i with _ | _ | _ | _ | _ | _ | i
      · exact ⟨List.mem_of_getElem? (i := 10) rfl, rfl⟩
      · exact ⟨List.mem_of_getElem? (i := 8) rfl, rfl⟩
      · exact ⟨List.mem_of_getElem? (i := 6) rfl, rfl⟩
      · exact ⟨List.mem_of_getElem? (i := 4) rfl, rfl⟩
      · exact ⟨List.mem_of_getElem? (i := 2) rfl, rfl⟩
      · exact ⟨List.mem_of_getElem? (i := 0) rfl, rfl⟩
      · exact ⟨List.mem_of_getElem? (i := 0) rfl, rfl⟩
    case hJ =>
      refine ⟨sel [c0, c1, c2, c3, c4, c5] 0, sel [o0, o1, o2, o3, o4, o5] o0, sel [d0, d1, d2, d3, d4, d5] .none, sel [z0, z1, z2, z3, z4, z5] .none, cc, oc, PP, fun i hi => ?_, fun i hi => ?_, List.mem_of_getElem? (i := 14) rfl, HC, List.mem_of_getElem? (i := 15) rfl, rfl⟩
      · rcases i with _ | _ | _ | _ | _ | _ | i
        · exact List.mem_of_getElem? (i := 10) rfl
        · exact List.mem_of_getElem? (i := 8) rfl
        · exact List.mem_of_getElem? (i := 6) rfl
        · exact List.mem_of_getElem? (i := 4) rfl
        · exact List.mem_of_getElem? (i := 2) rfl
        · exact List.mem_of_getElem? (i := 0) rfl
        · exact (no6 hi).elim
      · rcases i with _ | _ | _ | _ | _ | _ | i
        · exact ⟨List.mem_of_getElem? (i := 11) rfl, v0, q0, hd0, cast (by kernel_rfl) hv0⟩
        · exact ⟨List.mem_of_getElem? (i := 9) rfl, v1, q1, hd1, cast (by kernel_rfl) hv1⟩
        · exact ⟨List.mem_of_getElem? (i := 7) rfl, v2, q2, hd2, cast (by kernel_rfl) hv2⟩
        · exact ⟨List.mem_of_getElem? (i := 5) rfl, v3, q3, hd3, cast (by kernel_rfl) hv3⟩
        · exact ⟨List.mem_of_getElem? (i := 3) rfl, v4, q4, hd4, cast (by kernel_rfl) hv4⟩
        · exact ⟨List.mem_of_getElem? (i := 1) rfl, v5, q5, hd5, cast (by kernel_rfl) hv5⟩
        · exact (no6 hi).elim
  case hx =>
    intro a nd md so bm tm to td t0 ts k v' f sl stt bt pb ns more rest1 n h1 h' t' hJ D D2
    obtain ⟨c', oc, doc, ctv, cc, ocK, PP, j1, j2, j3, j4, j5, rfl⟩ := hJ
    refine wpAny_bind (m_is _ rfl ?_)
    refine wpAny_bind (wpAny_standAt ?_)
    refine wpAny_bind (wpAny_bindName ?_)
    have k2 : ∀ b o, h1.get? b = some o → h'.get? b = some o := fun b o e => D2.keep b o e (by simp [away])
    have k1 : ∀ b o, (hideAll s.heap [728]).get? b = some o → h1.get? b = some o := fun b o e => D.keep b o e (by simp [away])
    have inL : (L, frmO) ∈ (stt, tupO [.str (Str.ofString "obj") ts]) :: more ++ (ns, n) :: (pb, prepO) :: (bt, tupO [.type "object"]) :: [(c, cellO (some v)), (L, frmO), (728, tabL [rawInt 725, rawInt 4, .ref cc])] :=
      List.mem_append_right _ (.tail _ (.tail _ (.tail _ (.tail _ (.head _)))))
    have gL : h1.get? L = some frmO ∧ (hideAll s.heap [728]).get? L = none := D.nw (L, frmO) inL
    have nsL : h'.Ns L (fun _ => none) := ⟨frmO, #[], 0, k2 _ _ gL.1, rfl, fun _ he => by simp at he, fun _ => rfl⟩
    refine wpAny_storeName_local rfl nsL fun h'' hns hsb => ?_
    refine wpAny_pure ?_
    refine wpAny_execs_cons ?_
    refine wpAny_Return_some (wpAny_Name (wpAny_loadName_local rfl rfl hns rfl ?_) (by decide))
    have k3 : ∀ b o, h'.get? b = some o → b ≠ L → h''.get? b = some o := fun b o e n => hsb.extBut b o n e
    have neL : ∀ b o, (hideAll s.heap [728]).get? b = some o → b ≠ L := fun b o e q => by
      rw [q, gL.2] at e; cases e
    have ne1 : ∀ (b : Addr) (o : Obj), h1.get? b = some o → o ≠ frmO → b ≠ L := fun b o e n q => by
      rw [q, gL.1] at e; exact n (Option.some.inj e).symm
    have ne2 : ∀ b : Addr, h1.get? b = none → b ≠ L := fun b e q => by rw [q, gL.1] at e; cases e
    have ltP : @LT.lt Nat _ 728 PP := by
      have o := D.ord
      rw [List.map_append] at o
      exact (List.pairwise_append.mp o).2.2 PP (List.mem_map_of_mem (f := (·.1)) (show (PP, _) ∈ _ from .tail _ j5)) 728 (by simp)
    refine ret a nd md c cc PP bt sl stt f c' oc doc ctv ocK k v' tm to td t0 (v' 1) h'' _ ltP (kept_hide fun b o e => k3 b o (k2 _ _ (k1 _ _ e)) (neL _ _ e)) (fun i hi => (j2 i hi).2) j4 ?_
    have gD : ∀ q ∈ (stt, tupO [.str (Str.ofString "obj") ts]) :: more ++ (ns, n) :: (pb, prepO) :: (bt, tupO [.type "object"]) :: [(c, cellO (some v)), (L, frmO), (728, tabL [rawInt 725, rawInt 4, .ref cc])], q.2 ≠ frmO → h''.get? q.1 = some q.2 ∧ (q.1 ∈ [728] ∨ s.heap.get? q.1 = none) :=
      fun q hq n => ⟨k3 _ _ (k2 _ _ (D.nw q hq).1) (ne1 _ _ (D.nw q hq).1 n), none_hide (D.nw q hq).2⟩
    have g2 : ∀ q ∈ [(bm, bimO a), (so, supO a), (md, memO a tm), (a, clsK bt a nd t0 (v' 1)), (nd, kD w.params k v' f sl stt [ent w.params (Str.ofString "obj") to (.ref md), ent w.params (Str.ofString "__doc__") td .none] 3)], h''.get? q.1 = some q.2 ∧ (q.1 ∈ [728] ∨ s.heap.get? q.1 = none) :=
      fun q hq => ⟨k3 _ _ (D2.nw q hq).1 (ne2 _ (D2.nw q hq).2), none_hide (by
        cases e : (hideAll s.heap [728]).get? q.1 with
        | none => rfl
        | some o => have := k1 _ _ e; rw [(D2.nw q hq).2] at this; cases this)⟩
    have im : ∀ {q}, q ∈ more → q ∈ (stt, tupO [.str (Str.ofString "obj") ts]) :: more ++ (ns, n) :: (pb, prepO) :: (bt, tupO [.type "object"]) :: [(c, cellO (some v)), (L, frmO), (728, tabL [rawInt 725, rawInt 4, .ref cc])] := fun m => List.mem_append_left _ (.tail _ m)
    have fn : ∀ i, i < 6 → _ := fun i hi => gD _ (im (j1 i hi)) (nfr rfl (by decide))
    have cn : ∀ i, i < 6 → _ := fun i hi => gD _ (im (j2 i hi).1) (let ⟨_, _, e, _⟩ := (j2 i hi).2; nfrF e)
    have kn : ocK ≠ frmO := by
      have m := (D.nw _ (im j3)).1
      obtain ⟨o, vs, file, tf, flags, tg, inF, text, tt, e1, e2, _⟩ := j4 h1 m
      rw [m] at e1; cases e1
      exact nfr e2 (by decide)
    refine List.forall_mem_append.mpr ⟨List.forall_mem_append.mpr ⟨?_, ?_⟩, ?_⟩
    · refine List.forall_mem_cons.mpr ⟨g2 _ (List.mem_of_getElem? (i := 3) rfl), List.forall_mem_cons.mpr ⟨g2 _ (List.mem_of_getElem? (i := 4) rfl), List.forall_mem_cons.mpr ⟨g2 _ (List.mem_of_getElem? (i := 2) rfl), List.forall_mem_cons.mpr ⟨gD _ (List.mem_append_right _ (.tail _ (.tail _ (.tail _ (.head _))))) (nfr rfl (by decide)), ?_⟩⟩⟩⟩
      exact List.forall_mem_cons.mpr ⟨fn 0 (by omega), List.forall_mem_cons.mpr ⟨fn 1 (by omega), List.forall_mem_cons.mpr ⟨fn 2 (by omega), List.forall_mem_cons.mpr ⟨fn 3 (by omega), List.forall_mem_cons.mpr ⟨fn 4 (by omega), List.forall_mem_cons.mpr ⟨fn 5 (by omega), List.forall_mem_nil _⟩⟩⟩⟩⟩⟩
    · exact List.forall_mem_cons.mpr ⟨cn 0 (by omega), List.forall_mem_cons.mpr ⟨cn 1 (by omega), List.forall_mem_cons.mpr ⟨cn 2 (by omega), List.forall_mem_cons.mpr ⟨cn 3 (by omega), List.forall_mem_cons.mpr ⟨cn 4 (by omega), List.forall_mem_cons.mpr ⟨cn 5 (by omega), List.forall_mem_nil _⟩⟩⟩⟩⟩⟩
    · exact List.forall_mem_cons.mpr ⟨gD _ (im j3) kn, List.forall_mem_cons.mpr ⟨gD _ (im j5) (nfr0 rfl), List.forall_mem_cons.mpr ⟨gD _ (List.mem_append_right _ (.tail _ (.tail _ (.tail _ (.tail _ (.tail _ (.head _))))))) (nfr0 rfl), List.forall_mem_nil _⟩⟩⟩
theorem c_ctk2 {base : Heap} {s : Shared} {R : Result → Shared → Prop} {v : Value}
    {PP cc : Addr} {c2 : Nat → Addr} (HC : CodeHd base cc PP) (HQ : ∀ i, i < 6 → s.heap.CodeRec (.ref (c2 i)) (kQual w.params i))
    (B : Below (ar dp un gd outs) base outs s.heap) (X : (pre.heap_1 w.params).In base) (TT : Top p loose mean mg mb base) (hV : ∀ x ∈ ([(PP, tabL (kTab w.params c2)), (728, tabL [rawInt 725, rawInt 4, .ref cc])] : List (Addr × Obj)), base.get? x.1 = none) (D : Mem (hideAll s.heap (([(PP, tabL (kTab w.params c2)), (728, tabL [rawInt 725, rawInt 4, .ref cc])] : List (Addr × Obj)).map (·.1))) s.heap [] [(PP, tabL (kTab w.params c2)), (728, tabL [rawInt 725, rawInt 4, .ref cc])])
    (C : CodeHd base 732 728) (hdp : dp + 5 < recursionLimit) (hu : un + 40 < cLine)
    (ret : ∀ (a nd md c bt sl stt : Addr) (f : Nat → Addr) (doc ctv : Nat → Value) (k vv : Nat → Tok) (tm to td t0 tq : Tok) h' tk', Kept [PP, 728] s.heap h' →
      (∀ q ∈ kLed w.params ((mg (Str.ofString "__name__")).getD .none) v a nd md c bt sl stt f c2 doc ctv k vv tm to td t0 tq ++ [(PP, tabL (kTab w.params c2)), (728, tabL [rawInt 725, rawInt 4, .ref cc])], h'.get? q.1 = some q.2 ∧ (q.1 ∈ [PP, 728] ∨ s.heap.get? q.1 = none)) →
      R (.ok (.ret (.ref a))) { s with heap := h', toks := tk' }) :
    codeAny (model PG w) (ar dp un gd outs) (.call (.ref 733) ⟨[v], []⟩) R s := by
  refine' enterC (led := [(PP, tabL (kTab w.params c2)), (728, tabL [rawInt 725, rawInt 4, .ref cc])]) B X TT hV D ?k6 ?k7 ?k8 ?k9 ?kA ?_ ?c2 ?c3 ?c4
  case k6 => k_is
  case k7 => k_is
  case k8 => k_room
  case k9 => exact BindsTo.of_eq rfl
  case kA => exact rfl
  case c2 => exact rfl
  case c3 => exact rfl
  case c4 => exact rfl
  intro L c h₁ D
  have kB : ∀ b o, base.get? b = some o → (hideAll s.heap (([(PP, tabL (kTab w.params c2)), (728, tabL [rawInt 725, rawInt 4, .ref cc])] : List (Addr × Obj)).map (·.1))).get? b = some o := fun b o e => hideAll_get _ (B.stays b o e) fun q => by
    obtain ⟨z, hz, e'⟩ := List.mem_map.mp q
    rw [← e', hV z hz] at e; cases e
  have kH : ∀ b o, base.get? b = some o → h₁.get? b = some o := fun b o e => D.keep b o (kB b o e) (by simp [away])
  refine wpAny_execs_cons ?_
  rw [exec_class]
  generalize hE : (fun (e : Value) (s' : Shared) => wpAny (model PG w) _ (leaving _ e) _ _ s') = EE
  refine wpAny_bind (m_is [] rfl ?_)
  refine wpAny_bind (wpAny_standAt ?_)
  refine wpAny_bind ?_
  delta buildClassGuard
  refine wpAny_bind (wpAny_nsGet (TT.b.keeps kH) ?_)
  rw [TT.builtins _ (by decide), show bootBuiltins (Str.ofString "__build_class__") = some (.builtin "__build_class__") from by kernel_rfl]
  refine wpAny_pure ?_
  refine wpAny_bind (wpAny_holding ?_)
  refine wpAny_bind ?_
  delta evalArgs
  refine wpAny_bind (wpAny_bind ?_)
  refine m_false rfl ?_
  refine' Name_function_global rfl rfl (loadGlobal_builtin (TT.g.keeps kH) (mg_none_of X TT.g ?kn) (TT.b.keeps kH) ((TT.builtins _ (by decide)).trans (show bootBuiltins (Str.ofString "object") = some (.type "object") from by kernel_rfl)) ?_) (by decide)
  case kn => k_is
  refine m_false rfl ?_
  refine wpAny_bind (wpAny_pure ?_)
  refine wpAny_bind (wpAny_holding (m_is [] rfl ?_))
  refine wpAny_pure ?_
  refine wpAny_pure ?_
  refine wpAny_bind (wpAny_standAt ?_)
  refine wpAny_holding ?_
  show wpAny _ _ (buildClass (Str.ofString "K") (qualnameIn _ _ _) [.type "object"] [] _ _ [Str.ofString "obj"] (firstLineOf [] _) _ _ none) _ _ _
  have hq : ∀ (sc : Scope), sc.names.lookup (Str.ofString "K") = some .local → qualnameIn (envX (Str.ofString "cmp_to_key") sc L 733 (Value.ref 732) [(Str.ofString "mycmp", c)]) (Str.ofString "K") (Str.ofString "K") = Str.ofString "cmp_to_key.<locals>.K" := fun sc e => by
    unfold qualnameIn Env.kindOf
    rw [e]
    kernel_rfl
  rw [hq _ rfl]
  refine' bc (c := c) (I := I2 v c L PP cc (tabL (kTab w.params c2))) (J := J2 w.params v ((mg (Str.ofString "__name__")).getD .none) c L PP cc (tabL (kTab w.params c2)) c2) TT kB D ?hz rfl rfl ?hclo rfl ?g1 ?g2 ?hdep ?hname ?n0 ?n1 ?n2 ?n3 ?n4 ?hst ?hno ?hcc ?hbody ?hx
  case hz => exact .tail _ (.tail _ (.tail _ (.head _)))
  case hclo => kernel_rfl
  case g1 => kernel_rfl
  case g2 => kernel_rfl
  case hdep => k_room
  case hname => exact mg_of X TT.g (by k_is)
  case n0 => kernel_rfl
  case n1 => kernel_rfl
  case n2 => kernel_rfl
  case n3 => kernel_rfl
  case n4 => kernel_rfl
  case hst => exact kB _ _ (X _ _ (by k_is))
  case hno => kernel_rfl
  case hcc =>
    intro bt pb ns h' t' Q' E' D x
    refine m_clsHit (cv := .ref cc) 6 D rfl rfl (C.keeps fun b o e => D.keep b o (kB b o e) (by simp [away])) trivial (by kernel_rfl) ?_
    exact x cc [] _ h' t' ⟨rfl, rfl, rfl⟩ D
  case hbody =>
    intro cc l rest1 ns pb bt fr ofr t1 t2 t3 t4 t5 h' t' Q' E' hI D x
    obtain ⟨rfl, rfl, rfl⟩ := hI
    have D : Mem _ h' [] [(fr, ofr), (ns, nsD 3 _), (pb, prepO), (bt, tupO [.type "object"]), (c, cellO (some v)), (L, frmO), (PP, tabL (kTab w.params c2)), (728, tabL [rawInt 725, rawInt 4, .ref cc])] := D
    refine wpAny_run (codeAny_body rfl rfl ?_)
    refine wpAny_execs_cons ?_
    rw [exec_Assign_Name (hs := rfl)]
    refine wpAny_bind (wpAny_standAt ?_)
    refine wpAny_bind (wpAny_mkText ?_)
    refine wpAny_bind (wpAny_standAt ?_)
    refine wpAny_bind (wpAny_bindName ?_)
    refine m_storeC 3 (fun _ => [ent w.params (Str.ofString "__module__") t1 (.str (Str.ofString "cpy313.functools") t'), ent w.params (Str.ofString "__qualname__") t2 (.str (Str.ofString "cmp_to_key.<locals>.K") t3), ent w.params (Str.ofString "__firstlineno__") t4 (.int 725 t5)]) 1 D rfl rfl (.inl rfl) rfl (by kernel_rfl) (by kernel_rfl) fun h D => ?_
    dsimp only [List.set] at D
    refine wpAny_pure ?_
    refine wpAny_execs_cons ?_
    rw [exec_Assign_Name (hs := rfl)]
    refine wpAny_bind (wpAny_standAt ?_)
    refine wpAny_bind ?_
    show wpAny _ _ (standAt _ >>= fun _ => (spliced [(false, mkText (Str.ofString "obj"))] >>= fun vs => newList vs)) _ _ _
    refine wpAny_bind (wpAny_standAt ?_)
    refine wpAny_bind (m_spl1 (wpAny_mkText ?_))
    refine m_newObj D fun sl h D => ?_
    refine wpAny_bind (wpAny_standAt ?_)
    refine wpAny_bind (wpAny_bindName ?_)
    refine m_storeN 2 D rfl rfl (.inl rfl) rfl (by kernel_rfl) (by kernel_rfl) fun h D => ?_
    dsimp only [List.set] at D
    refine wpAny_pure ?_
    refine wpAny_execs_cons ?_
    refine nestDef_K rfl rfl rfl ?_
    refine m_fnHit (clos := []) (c' := c2 0) TT kB 7 D rfl (by kernel_rfl) rfl rfl (HC.keeps fun b o e => D.keep b o (kB b o e) (by simp [away])) (cast (by kernel_rfl) trivial) (by kernel_rfl) fun f0 z0 d0 h y0 D => ?_
    refine m_storeN 3 D rfl rfl (.inl rfl) rfl (by kernel_rfl) (by kernel_rfl) fun h D => ?_
    dsimp only [List.set] at D
    refine wpAny_execs_cons ?_
    refine nestDef_K rfl rfl rfl ?_
    refine m_fnHit (clos := [(Str.ofString "mycmp", c)]) (c' := c2 1) TT kB 8 D rfl (by kernel_rfl) rfl rfl (HC.keeps fun b o e => D.keep b o (kB b o e) (by simp [away])) (cast (by kernel_rfl) trivial) (by kernel_rfl) fun f1 z1 d1 h y1 D => ?_
    refine m_storeN 4 D rfl rfl (.inl rfl) rfl (by kernel_rfl) (by kernel_rfl) fun h D => ?_
    dsimp only [List.set] at D
    refine wpAny_execs_cons ?_
    refine nestDef_K rfl rfl rfl ?_
    refine m_fnHit (clos := [(Str.ofString "mycmp", c)]) (c' := c2 2) TT kB 9 D rfl (by kernel_rfl) rfl rfl (HC.keeps fun b o e => D.keep b o (kB b o e) (by simp [away])) (cast (by kernel_rfl) trivial) (by kernel_rfl) fun f2 z2 d2 h y2 D => ?_
    refine m_storeN 5 D rfl rfl (.inl rfl) rfl (by kernel_rfl) (by kernel_rfl) fun h D => ?_
    dsimp only [List.set] at D
    refine wpAny_execs_cons ?_
    refine nestDef_K rfl rfl rfl ?_
    refine m_fnHit (clos := [(Str.ofString "mycmp", c)]) (c' := c2 3) TT kB 10 D rfl (by kernel_rfl) rfl rfl (HC.keeps fun b o e => D.keep b o (kB b o e) (by simp [away])) (cast (by kernel_rfl) trivial) (by kernel_rfl) fun f3 z3 d3 h y3 D => ?_
    refine m_storeN 6 D rfl rfl (.inl rfl) rfl (by kernel_rfl) (by kernel_rfl) fun h D => ?_
    dsimp only [List.set] at D
    refine wpAny_execs_cons ?_
    refine nestDef_K rfl rfl rfl ?_
    refine m_fnHit (clos := [(Str.ofString "mycmp", c)]) (c' := c2 4) TT kB 11 D rfl (by kernel_rfl) rfl rfl (HC.keeps fun b o e => D.keep b o (kB b o e) (by simp [away])) (cast (by kernel_rfl) trivial) (by kernel_rfl) fun f4 z4 d4 h y4 D => ?_
    refine m_storeN 7 D rfl rfl (.inl rfl) rfl (by kernel_rfl) (by kernel_rfl) fun h D => ?_
    dsimp only [List.set] at D
    refine wpAny_execs_cons ?_
    refine nestDef_K rfl rfl rfl ?_
    refine m_fnHit (clos := [(Str.ofString "mycmp", c)]) (c' := c2 5) TT kB 12 D rfl (by kernel_rfl) rfl rfl (HC.keeps fun b o e => D.keep b o (kB b o e) (by simp [away])) (cast (by kernel_rfl) trivial) (by kernel_rfl) fun f5 z5 d5 h y5 D => ?_
    refine m_storeN 8 D rfl rfl (.inl rfl) rfl (by kernel_rfl) (by kernel_rfl) fun h D => ?_
    dsimp only [List.set] at D
    refine wpAny_execs_cons ?_
    rw [exec_Assign_Name (hs := rfl)]
    refine wpAny_bind (wpAny_standAt ?_)
    refine wpAny_bind (m_is .none rfl ?_)
    refine wpAny_bind (wpAny_standAt ?_)
    refine wpAny_bind (wpAny_bindName ?_)
    refine m_storeN 8 D rfl rfl (.inl rfl) rfl (by kernel_rfl) (by kernel_rfl) fun h D => ?_
    dsimp only [List.set] at D
    refine wpAny_pure ?_
    refine wpAny_execs_nil ?_
    have D2 : Mem (hideAll s.heap (([(PP, tabL (kTab w.params c2)), (728, tabL [rawInt 725, rawInt 4, .ref cc])] : List (Addr × Obj)).map (·.1))) h [] ([(f5, kFn w.params 5 c d5 ((mg (Str.ofString "__name__")).getD .none) (c2 5) z5), (f4, kFn w.params 4 c d4 ((mg (Str.ofString "__name__")).getD .none) (c2 4) z4), (f3, kFn w.params 3 c d3 ((mg (Str.ofString "__name__")).getD .none) (c2 3) z3), (f2, kFn w.params 2 c d2 ((mg (Str.ofString "__name__")).getD .none) (c2 2) z2), (f1, kFn w.params 1 c d1 ((mg (Str.ofString "__name__")).getD .none) (c2 1) z1), (f0, kFn w.params 0 c d0 ((mg (Str.ofString "__name__")).getD .none) (c2 0) z0), (sl, lisO [.str (Str.ofString "obj") (t' + 2)]), (fr, ofr)] ++ (ns, nsD 11 (kE11 w.params (sel [t1, t2, t4, t' + 3, y0, y1, y2, y3, y4, y5, y5 + 1] 0) (sel [t', t3, t5] 0) (sel [f0, f1, f2, f3, f4, f5] f5) sl)) :: (pb, prepO) :: (bt, tupO [.type "object"]) :: [(c, cellO (some v)), (L, frmO), (PP, tabL (kTab w.params c2)), (728, tabL [rawInt 725, rawInt 4, .ref cc])]) := cast (by kernel_rfl) D
    refine x (sel [t1, t2, t4, t' + 3, y0, y1, y2, y3, y4, y5, y5 + 1] 0) (sel [t', t3, t5] 0) (sel [f0, f1, f2, f3, f4, f5] f5) (sel [kFn w.params 0 c d0 ((mg (Str.ofString "__name__")).getD .none) (c2 0) z0, kFn w.params 1 c d1 ((mg (Str.ofString "__name__")).getD .none) (c2 1) z1, kFn w.params 2 c d2 ((mg (Str.ofString "__name__")).getD .none) (c2 2) z2, kFn w.params 3 c d3 ((mg (Str.ofString "__name__")).getD .none) (c2 3) z3, kFn w.params 4 c d4 ((mg (Str.ofString "__name__")).getD .none) (c2 4) z4, kFn w.params 5 c d5 ((mg (Str.ofString "__name__")).getD .none) (c2 5) z5] (kFn w.params 5 c d5 ((mg (Str.ofString "__name__")).getD .none) (c2 5) z5)) sl (t' + 2) [(f5, kFn w.params 5 c d5 ((mg (Str.ofString "__name__")).getD .none) (c2 5) z5), (f4, kFn w.params 4 c d4 ((mg (Str.ofString "__name__")).getD .none) (c2 4) z4), (f3, kFn w.params 3 c d3 ((mg (Str.ofString "__name__")).getD .none) (c2 3) z3), (f2, kFn w.params 2 c d2 ((mg (Str.ofString "__name__")).getD .none) (c2 2) z2), (f1, kFn w.params 1 c d1 ((mg (Str.ofString "__name__")).getD .none) (c2 1) z1), (f0, kFn w.params 0 c d0 ((mg (Str.ofString "__name__")).getD .none) (c2 0) z0), (sl, lisO [.str (Str.ofString "obj") (t' + 2)]), (fr, ofr)] h _ ?hJ ?hsl ?hf D2
    case hsl => exact List.mem_of_getElem? (i := 6) rfl
    case hf =>
      intro i
      rcases i with _ | _ | _ | _ | _ | _ | i
      · exact ⟨List.mem_of_getElem? (i := 5) rfl, rfl⟩
      · exact ⟨List.mem_of_getElem? (i := 4) rfl, rfl⟩
      · exact ⟨List.mem_of_getElem? (i := 3) rfl, rfl⟩
      · exact ⟨List.mem_of_getElem? (i := 2) rfl, rfl⟩
      · exact ⟨List.mem_of_getElem? (i := 1) rfl, rfl⟩
      · exact ⟨List.mem_of_getElem? (i := 0) rfl, rfl⟩
      · exact ⟨List.mem_of_getElem? (i := 0) rfl, rfl⟩
    case hJ =>
      refine ⟨sel [d0, d1, d2, d3, d4, d5] .none, sel [z0, z1, z2, z3, z4, z5] .none, fun i hi => ?_, rfl⟩
      rcases i with _ | _ | _ | _ | _ | _ | i
      · exact List.mem_of_getElem? (i := 5) rfl
      · exact List.mem_of_getElem? (i := 4) rfl
      · exact List.mem_of_getElem? (i := 3) rfl
      · exact List.mem_of_getElem? (i := 2) rfl
      · exact List.mem_of_getElem? (i := 1) rfl
      · exact List.mem_of_getElem? (i := 0) rfl
      · exact (no6 hi).elim
  case hx =>
    intro a nd md so bm tm to td t0 ts k v' f sl stt bt pb ns more rest1 n h1 h' t' hJ D D2
    obtain ⟨doc, ctv, j1, rfl⟩ := hJ
    refine wpAny_bind (m_is _ rfl ?_)
    refine wpAny_bind (wpAny_standAt ?_)
    refine wpAny_bind (wpAny_bindName ?_)
    have k2 : ∀ b o, h1.get? b = some o → h'.get? b = some o := fun b o e => D2.keep b o e (by simp [away])
    have k1 : ∀ b o, (hideAll s.heap [PP, 728]).get? b = some o → h1.get? b = some o := fun b o e => D.keep b o e (by simp [away])
    have inL : (L, frmO) ∈ (stt, tupO [.str (Str.ofString "obj") ts]) :: more ++ (ns, n) :: (pb, prepO) :: (bt, tupO [.type "object"]) :: [(c, cellO (some v)), (L, frmO), (PP, tabL (kTab w.params c2)), (728, tabL [rawInt 725, rawInt 4, .ref cc])] :=
      List.mem_append_right _ (.tail _ (.tail _ (.tail _ (.tail _ (.head _)))))
    have gL : h1.get? L = some frmO ∧ (hideAll s.heap [PP, 728]).get? L = none := D.nw (L, frmO) inL
    have nsL : h'.Ns L (fun _ => none) := ⟨frmO, #[], 0, k2 _ _ gL.1, rfl, fun _ he => by simp at he, fun _ => rfl⟩
    refine wpAny_storeName_local rfl nsL fun h'' hns hsb => ?_
    refine wpAny_pure ?_
    refine wpAny_execs_cons ?_
    refine wpAny_Return_some (wpAny_Name (wpAny_loadName_local rfl rfl hns rfl ?_) (by decide))
    have k3 : ∀ b o, h'.get? b = some o → b ≠ L → h''.get? b = some o := fun b o e n => hsb.extBut b o n e
    have neL : ∀ b o, (hideAll s.heap [PP, 728]).get? b = some o → b ≠ L := fun b o e q => by
      rw [q, gL.2] at e; cases e
    have ne1 : ∀ (b : Addr) (o : Obj), h1.get? b = some o → o ≠ frmO → b ≠ L := fun b o e n q => by
      rw [q, gL.1] at e; exact n (Option.some.inj e).symm
    have ne2 : ∀ b : Addr, h1.get? b = none → b ≠ L := fun b e q => by rw [q, gL.1] at e; cases e
    refine ret a nd md c bt sl stt f doc ctv k v' tm to td t0 (v' 1) h'' _ (kept_hide fun b o e => k3 b o (k2 _ _ (k1 _ _ e)) (neL _ _ e)) ?_
    have gD : ∀ q ∈ (stt, tupO [.str (Str.ofString "obj") ts]) :: more ++ (ns, n) :: (pb, prepO) :: (bt, tupO [.type "object"]) :: [(c, cellO (some v)), (L, frmO), (PP, tabL (kTab w.params c2)), (728, tabL [rawInt 725, rawInt 4, .ref cc])], q.2 ≠ frmO → h''.get? q.1 = some q.2 ∧ (q.1 ∈ [PP, 728] ∨ s.heap.get? q.1 = none) :=
      fun q hq n => ⟨k3 _ _ (k2 _ _ (D.nw q hq).1) (ne1 _ _ (D.nw q hq).1 n), none_hide (D.nw q hq).2⟩
    have g2 : ∀ q ∈ [(bm, bimO a), (so, supO a), (md, memO a tm), (a, clsK bt a nd t0 (v' 1)), (nd, kD w.params k v' f sl stt [ent w.params (Str.ofString "obj") to (.ref md), ent w.params (Str.ofString "__doc__") td .none] 3)], h''.get? q.1 = some q.2 ∧ (q.1 ∈ [PP, 728] ∨ s.heap.get? q.1 = none) :=
      fun q hq => ⟨k3 _ _ (D2.nw q hq).1 (ne2 _ (D2.nw q hq).2), none_hide (by
        cases e : (hideAll s.heap [PP, 728]).get? q.1 with
        | none => rfl
        | some o => have := k1 _ _ e; rw [(D2.nw q hq).2] at this; cases this)⟩
    have im : ∀ {q}, q ∈ more → q ∈ (stt, tupO [.str (Str.ofString "obj") ts]) :: more ++ (ns, n) :: (pb, prepO) :: (bt, tupO [.type "object"]) :: [(c, cellO (some v)), (L, frmO), (PP, tabL (kTab w.params c2)), (728, tabL [rawInt 725, rawInt 4, .ref cc])] := fun m => List.mem_append_left _ (.tail _ m)
    have fn : ∀ i, i < 6 → _ := fun i hi => gD _ (im (j1 i hi)) (nfr rfl (by decide))
    refine List.forall_mem_append.mpr ⟨?_, ?_⟩
    · refine List.forall_mem_cons.mpr ⟨g2 _ (List.mem_of_getElem? (i := 3) rfl), List.forall_mem_cons.mpr ⟨g2 _ (List.mem_of_getElem? (i := 4) rfl), List.forall_mem_cons.mpr ⟨g2 _ (List.mem_of_getElem? (i := 2) rfl), List.forall_mem_cons.mpr ⟨gD _ (List.mem_append_right _ (.tail _ (.tail _ (.tail _ (.head _))))) (nfr rfl (by decide)), ?_⟩⟩⟩⟩
      exact List.forall_mem_cons.mpr ⟨fn 0 (by omega), List.forall_mem_cons.mpr ⟨fn 1 (by omega), List.forall_mem_cons.mpr ⟨fn 2 (by omega), List.forall_mem_cons.mpr ⟨fn 3 (by omega), List.forall_mem_cons.mpr ⟨fn 4 (by omega), List.forall_mem_cons.mpr ⟨fn 5 (by omega), List.forall_mem_nil _⟩⟩⟩⟩⟩⟩
    · exact List.forall_mem_cons.mpr ⟨gD _ (List.mem_append_right _ (.tail _ (.tail _ (.tail _ (.tail _ (.tail _ (.head _))))))) (nfr0 rfl), List.forall_mem_cons.mpr ⟨gD _ (List.mem_append_right _ (.tail _ (.tail _ (.tail _ (.tail _ (.tail _ (.tail _ (.head _)))))))) (nfr0 rfl), List.forall_mem_nil _⟩⟩
end
section
open PySem.W.X PySem.Builtin
set_option autoImplicit false
theorem lookup_of {h : Heap} (l : List (Addr × Obj)) (hl : ∀ q ∈ l, h.get? q.1 = some q.2) (q : Addr × Obj) (hq : q ∈ l) : List.lookup q.1 l = some q.2 := by
  induction l with
  | nil => cases hq
  | cons p l ih =>
    obtain ⟨b, o⟩ := p
    have h0 := hl (b, o) (.head _)
    rw [List.lookup_cons]
    cases e : q.1 == b with
    | true =>
      have e' : q.1 = b := eq_of_beq e
      have h1 := hl q hq
      rw [e'] at h1
      exact h0.symm.trans h1
    | false =>
      rcases List.mem_cons.mp hq with rfl | hq
      · rw [beq_self_eq_true] at e; cases e
      · exact ih (fun q hq => hl q (.tail _ hq)) hq
theorem mem_of_lookup' {a : Addr} {o : Obj} (K : Frag) (e : List.lookup a K = some o) : (a, o) ∈ K := by
  induction K with
  | nil => cases e
  | cons p K ih =>
    obtain ⟨b, o'⟩ := p
    rw [List.lookup_cons] at e
    cases q : a == b with
    | true => rw [q] at e; cases e; rw [eq_of_beq q]; exact .head _
    | false => rw [q] at e; exact .tail _ (ih e)
theorem in_of {h : Heap} {l : List (Addr × Obj)} (hl : ∀ q ∈ l, h.get? q.1 = some q.2) : Frag.In l h := fun _ _ e => hl _ (mem_of_lookup' l e)
structure KK (P : Params) (vn v : Value) (K : Frag) (a nd md c bt sl stt : Addr) (f c' : Nat → Addr) (doc ctv : Nat → Value) (k vv : Nat → Tok) (tm to td t0 tq : Tok) : Prop where
  hA : K.lookup a = some (clsK bt a nd t0 tq)
  hN : K.lookup nd = some (kD P k vv f sl stt [ent P (Str.ofString "obj") to (.ref md), ent P (Str.ofString "__doc__") td .none] 3)
  hM : K.lookup md = some (memO a tm)
  hC : K.lookup c = some (cellO (some v))
  hF : ∀ i, i < 6 → K.lookup (f i) = some (kFn P i c (doc i) vn (c' i) (ctv i))
theorem kk_of {P : Params} {vn v : Value} {h : Heap} {a nd md c bt sl stt : Addr} {f c' : Nat → Addr} {doc ctv : Nat → Value} {k vv : Nat → Tok} {tm to td t0 tq : Tok}
    (hl : ∀ q ∈ kLed P vn v a nd md c bt sl stt f c' doc ctv k vv tm to td t0 tq, h.get? q.1 = some q.2) : KK P vn v (kLed P vn v a nd md c bt sl stt f c' doc ctv k vv tm to td t0 tq) a nd md c bt sl stt f c' doc ctv k vv tm to td t0 tq := by
  have L := lookup_of _ hl
  refine ⟨L _ (List.mem_of_getElem? (i := 0) rfl), L _ (List.mem_of_getElem? (i := 1) rfl), L _ (List.mem_of_getElem? (i := 2) rfl), L _ (List.mem_of_getElem? (i := 3) rfl), fun i hi => ?_⟩
  rcases i with _ | _ | _ | _ | _ | _ | i
  · exact L _ (List.mem_of_getElem? (i := 4) rfl)
  · exact L _ (List.mem_of_getElem? (i := 5) rfl)
  · exact L _ (List.mem_of_getElem? (i := 6) rfl)
  · exact L _ (List.mem_of_getElem? (i := 7) rfl)
  · exact L _ (List.mem_of_getElem? (i := 8) rfl)
  · exact L _ (List.mem_of_getElem? (i := 9) rfl)
  · exact (no6 hi).elim
theorem nsIn_of {K : Frag} {nd : Addr} {t : Value} {d : Option Addr} {es : List DictEntry} {m : Nat} {sl : Array (Option Value)} {n : Str} {r : Option Value} (hN : K.lookup nd = some ⟨t, d, .dict es.toArray m, sl⟩) (hr : es.any (·.refKey) = false)
    (e : (es.find? (·.key.isStr n)).map (·.val) = r) : nsIn K nd n = some r := by
  unfold nsIn
  rw [hN]
  dsimp only
  rw [hr]
  subst e
  cases es.find? (·.key.isStr n) with
  | some e => rfl
  | none => rfl
theorem find_of {K : Frag} {a nd : Addr} {oc : Value} {od : Option Addr} {cd : ClassData} {csl : Array (Option Value)} {t : Value} {d : Option Addr} {es : List DictEntry} {m : Nat} {sl : Array (Option Value)} {n : Str} {u : Value} (hA : K.lookup a = some ⟨oc, od, .cls cd, csl⟩) (hm : cd.mro = [.ref a, .type "object"]) (hn : cd.ns = nd)
    (hN : K.lookup nd = some ⟨t, d, .dict es.toArray m, sl⟩) (hr : es.any (·.refKey) = false) (e : (es.find? (·.key.isStr n)).map (·.val) = some u) : findIn K (.ref a) n = some (some u) := by
  unfold findIn
  dsimp only
  rw [hA]
  dsimp only
  rw [hm]
  unfold alongIn ownIn
  dsimp only
  rw [hA]
  dsimp only
  rw [hn, nsIn_of hN hr e]
theorem find0_of {K : Frag} {a nd : Addr} {oc : Value} {od : Option Addr} {cd : ClassData} {csl : Array (Option Value)} {t : Value} {d : Option Addr} {es : List DictEntry} {m : Nat} {sl : Array (Option Value)} {n : Str} {r : Option Value} (hA : K.lookup a = some ⟨oc, od, .cls cd, csl⟩) (hm : cd.mro = [.ref a, .type "object"]) (hn : cd.ns = nd)
    (hN : K.lookup nd = some ⟨t, d, .dict es.toArray m, sl⟩) (hr : es.any (·.refKey) = false) (e : (es.find? (·.key.isStr n)).map (·.val) = none) (e2 : alongIn [] n [.type "object"] = some r) : findIn K (.ref a) n = some r := by
  unfold findIn
  dsimp only
  rw [hA]
  dsimp only
  rw [hm]
  unfold alongIn ownIn
  dsimp only
  rw [hA]
  dsimp only
  rw [hn, nsIn_of hN hr e]
  exact e2
section
variable {P : Params} {vn v : Value} {K : Frag} {a nd md c bt sl stt : Addr} {f c' : Nat → Addr} {doc ctv : Nat → Value} {k vv : Nat → Tok} {tm to td t0 tq : Tok}
theorem k_makes (X : KK P vn v K a nd md c bt sl stt f c' doc ctv k vv tm to td t0 tq) : makesIn K a = true := by
  have h1 : specialIn K (.ref a) "__call__" = some (some (.builtin "type.__call__")) := by
    unfold specialIn typeIn
    dsimp only
    rw [X.hA]
    kernel_rfl
  have h2 : instIn K (.ref a) (.type "type") = some true := by
    unfold instIn typeIn
    dsimp only
    rw [X.hA]
    kernel_rfl
  unfold makesIn
  rw [X.hA]
  dsimp only [clsK, clsO]
  rw [h1, h2]
  simp
theorem k_f0 (X : KK P vn v K a nd md c bt sl stt f c' doc ctv k vv tm to td t0 tq) : findIn K (.ref a) (Str.ofString "__init__") = some (some (.ref (f 0))) := find_of X.hA rfl rfl X.hN (by kernel_rfl) (by kernel_rfl)
theorem k_f1 (X : KK P vn v K a nd md c bt sl stt f c' doc ctv k vv tm to td t0 tq) : findIn K (.ref a) (Str.ofString "__lt__") = some (some (.ref (f 1))) := find_of X.hA rfl rfl X.hN (by kernel_rfl) (by kernel_rfl)
theorem k_f2 (X : KK P vn v K a nd md c bt sl stt f c' doc ctv k vv tm to td t0 tq) : findIn K (.ref a) (Str.ofString "__gt__") = some (some (.ref (f 2))) := find_of X.hA rfl rfl X.hN (by kernel_rfl) (by kernel_rfl)
theorem k_f3 (X : KK P vn v K a nd md c bt sl stt f c' doc ctv k vv tm to td t0 tq) : findIn K (.ref a) (Str.ofString "__eq__") = some (some (.ref (f 3))) := find_of X.hA rfl rfl X.hN (by kernel_rfl) (by kernel_rfl)
theorem k_f4 (X : KK P vn v K a nd md c bt sl stt f c' doc ctv k vv tm to td t0 tq) : findIn K (.ref a) (Str.ofString "__le__") = some (some (.ref (f 4))) := find_of X.hA rfl rfl X.hN (by kernel_rfl) (by kernel_rfl)
theorem k_f5 (X : KK P vn v K a nd md c bt sl stt f c' doc ctv k vv tm to td t0 tq) : findIn K (.ref a) (Str.ofString "__ge__") = some (some (.ref (f 5))) := find_of X.hA rfl rfl X.hN (by kernel_rfl) (by kernel_rfl)
theorem k_obj (X : KK P vn v K a nd md c bt sl stt f c' doc ctv k vv tm to td t0 tq) : findIn K (.ref a) (Str.ofString "obj") = some (some (.ref md)) := find_of X.hA rfl rfl X.hN (by kernel_rfl) (by kernel_rfl)
theorem k_seta (X : KK P vn v K a nd md c bt sl stt f c' doc ctv k vv tm to td t0 tq) : findIn K (.ref a) (Str.ofString "__setattr__") = some (some (.builtin "object.__setattr__")) := find0_of X.hA rfl rfl X.hN (by kernel_rfl) (by kernel_rfl) (by kernel_rfl)
theorem k_over (X : KK P vn v K a nd md c bt sl stt f c' doc ctv k vv tm to td t0 tq) : plainOver K a = true := by
  unfold plainOver clsIn
  rw [X.hA]
  kernel_rfl
theorem k_tmd (X : KK P vn v K a nd md c bt sl stt f c' doc ctv k vv tm to td t0 tq) : typeIn K (.ref md) = some (.type "member_descriptor") := by
  unfold typeIn
  dsimp only
  rw [X.hM]
  rfl
theorem k_taker (X : KK P vn v K a nd md c bt sl stt f c' doc ctv k vv tm to td t0 tq) : takerIn K a (Str.ofString "obj") = some (some (.ref md)) := by
  unfold takerIn
  rw [k_obj X]
  have e : takesIn K (.ref md) = some true := by
    unfold takesIn specialIn
    rw [k_tmd X]
    kernel_rfl
  show (takesIn K (.ref md)).map _ = _
  rw [e]
  rfl
theorem k_slot (X : KK P vn v K a nd md c bt sl stt f c' doc ctv k vv tm to td t0 tq) : slotIn K md a = some 0 := by
  unfold slotIn recIn clsIn
  rw [X.hM, X.hA]
  dsimp only [memO, clsK, clsO]
  simp [rawInt]
theorem k_tfn (X : KK P vn v K a nd md c bt sl stt f c' doc ctv k vv tm to td t0 tq) {i : Nat} (hi : i < 6) : typeIn K (.ref (f i)) = some (.type "function") := by
  unfold typeIn
  dsimp only
  rw [X.hF i hi]
  rfl
end
end
section
theorem fill_Ke : PySem.Challenge.rw_ij0136_01 = PySem.Challenge.rw_ij0136_01 ∧ pre.heap_1 = pre.heap_1 := by
  k_fill
  exact ⟨rfl, rfl⟩
open PySem.W.X PySem.Builtin
set_option autoImplicit false
noncomputable abbrev kInst (C dx : Addr) (u : Value) : Obj := { cls := .ref C, dict := some dx, data := .plain, slots := #[some u] }
theorem c_key {base : Heap} {s : Shared} {R : Result → Shared → Prop} {vn v u : Value}
    {K : Frag} {a nd md c bt sl stt : Addr} {f c' : Nat → Addr} {doc ctv : Nat → Value} {k vv : Nat → Tok} {tm to td t0 tq : Tok} (Y : KK w.params vn v K a nd md c bt sl stt f c' doc ctv k vv tm to td t0 tq) (XK : K.In s.heap)
    (HQ : s.heap.CodeRec (.ref (c' 0)) (kQual w.params 0)) (B : Below (ar dp un gd outs) base outs s.heap) (TT : Top p loose mean mg mb base) (hdp : dp + 5 < recursionLimit)
    (ret : ∀ x dx h' tk', (∀ b o, s.heap.get? b = some o → h'.get? b = some o) → h'.get? x = some (kInst a dx u) → h'.get? dx = some emptyDict → s.heap.get? x = none → s.heap.get? dx = none → R (.ok (.ret (.ref x))) { s with heap := h', toks := tk' }) :
    codeAny (model PG w) (ar dp un gd outs) (.call (.ref a) ⟨[u], []⟩) R s := by
  obtain ⟨h, g, d, t, os⟩ := s
  dsimp only at XK HQ B ret
  refine make_core (makes_of XK (k_makes Y)) (looks_findIn XK (k_f0 Y)) (fun self => bind_fn XK self (k_tfn Y (by omega))) (.inl rfl) ?_
  have kp : ∀ b o, h.get? b = some o → ((h.push emptyDict).push (instObj a h.objs.size)).get? b = some o := fun b o e => Heap.get?_push_of_some _ (Heap.get?_push_of_some _ e)
  have hf : ((h.push emptyDict).push (instObj a h.objs.size)).get? (f 0) = some (kFn w.params 0 c (doc 0) vn (c' 0) (ctv 0)) := kp _ _ (XK _ _ (Y.hF 0 (by omega)))
  have hd : (kFn w.params 0 c (doc 0) vn (c' 0) (ctv 0)).data = .func (fnX (kName w.params 0) (kQual w.params 0) (kPars w.params 0) (kBody w.params 0) (kScope w.params 0) [] .none .none (doc 0) vn none (.ref (c' 0)) (ctv 0)) := by kernel_rfl
  generalize kFn w.params 0 c (doc 0) vn (c' 0) (ctv 0) = fo at hf hd
  refine codeAny_call_def (binds := [(Str.ofString "self", .ref (h.objs.size + 1)), (Str.ofString "obj", u)]) ?room hf hd ?lim ?cd rfl ?bind ?cell ?loc (fun h₀ hns hk => ?body) ?co ?gen ?kind
  case room => k_room
  case lim => exact TT.nolimit.keeps fun b o e => kp b o (B.stays b o e)
  case cd => exact HQ.keeps kp
  case bind =>
    have e : kPars w.params 0 = kPars w.params 0 := rfl
    conv at e => rhs; whnf
    rw [e]
    generalize kBody w.params 0 = kb
    generalize kScope w.params 0 = ks
    generalize kName w.params 0 = kn
    generalize kQual w.params 0 = kq
    exact BindsTo.of_eq (by kernel_rfl)
  case co => kernel_rfl
  case gen => kernel_rfl
  case kind => kernel_rfl
  case loc =>
    have e : kScope w.params 0 = kScope w.params 0 := rfl
    conv at e => rhs; whnf
    rw [e]
    exact locs rfl
  case cell =>
    have e : kScope w.params 0 = kScope w.params 0 := rfl
    conv at e => rhs; whnf
    rw [e]
    show ∀ x ∈ [(Str.ofString "self", NameKind.local), (Str.ofString "obj", NameKind.local)], x.2 ≠ .cell
    decide
  case body =>
    have e : kBody w.params 0 = kBody w.params 0 := rfl
    conv at e => rhs; whnf
    rw [e]
    refine wpAny_execs_cons ?_
    generalize hL : ({ heap := (h.push emptyDict).push (instObj a h.objs.size), gens := g, drawn := d, toks := t, os := os } : Shared).heap.objs.size = L at hns ⊢
    have hL' : L = h.objs.size + 2 := by rw [← hL]; show ((h.push emptyDict).push _).objs.size = _; rw [Heap.size_push, Heap.size_push]
    clear hL
    have F0 : Fr h L h₀ _ := ⟨hns, fun b o e => hk b o (kp b o e), Nat.le_trans (Nat.le_add_right _ 2) (Nat.le_of_eq hL'.symm)⟩
    have eS : kScope w.params 0 = kScope w.params 0 := rfl
    conv at eS => rhs; whnf
    have hx : h₀.get? (h.objs.size + 1) = some (instObj a h.objs.size) := hk _ _ (by heap_get)
    have hdx : h₀.get? h.objs.size = some emptyDict := hk _ _ (by heap_get)
    generalize hEnv : callEnv _ L (f 0) = env
    have k1 : env.locals = L := by rw [← hEnv]; rfl
    have k2 : env.scope.kind = .function := by rw [← hEnv]; show (kScope w.params 0).kind = _; rw [eS]
    have k3 : env.kindOf (Str.ofString "self") = some .local := by rw [← hEnv]; show (kScope w.params 0).names.lookup _ = _; rw [eS]; rfl
    have k4 : env.kindOf (Str.ofString "obj") = some .local := by rw [← hEnv]; show (kScope w.params 0).names.lookup _ = _; rw [eS]; rfl
    clear hEnv eS e
    subst k1
    have N0 : News h env.locals h₀ [(h.objs.size + 1, instObj a h.objs.size), (h.objs.size, emptyDict)] := fun q hq => by
      rcases List.mem_cons.mp hq with rfl | hq
      · exact ⟨hx, fun q => absurd (q.trans hL') (Nat.ne_of_lt (Nat.lt_succ_self _)), Heap.get?_none_of_le (Nat.le_succ _)⟩
      · rcases List.mem_cons.mp hq with rfl | hq
        · exact ⟨hdx, fun q => absurd (q.trans hL') (Nat.ne_of_lt (Nat.lt_succ_of_lt (Nat.lt_succ_self _))), Heap.get?_none_of_le (Nat.le_refl _)⟩
        · cases hq
    have I : InstAt h₀ (h.objs.size + 1) (instObj a h.objs.size) a (some emptyDict) := ⟨hx, rfl, rfl, hdx⟩
    have X0 : K.In h₀ := XK.keeps fun b o e => hk b o (kp b o e)
    refine plainObj_wpAny_Assign_Attribute (wpAny_Name (wpAny_loadName_local k2 k4 hns (v := u) rfl (wpAny_Name (wpAny_loadName_local k2 k3 hns (v := .ref (h.objs.size + 1)) rfl ?_) (by decide))) (by decide))
    refine set_plain (C := a) (s := ⟨h₀, _, _, _, _⟩) X0 I (k_seta Y) ?_
    refine osa_descr (C := a) (p := md) KF.slot_mset X0 I (k_over Y) (k_taker Y) (k_tmd Y) ?_
    refine slot_set (s := ⟨h₀, _, _, _, _⟩) (pre := []) (post := [(h.objs.size, emptyDict)]) F0 N0 X0 I (k_slot Y) (by decide) (fun _ q => nomatch q) (fun q hq => by rcases List.mem_cons.mp hq with rfl | hq; exact ffo1; cases hq) (ox' := kInst a h.objs.size u) ?eq rfl fun h' F' N' => ?_
    case eq => rfl
    refine wpAny_execs_nil ⟨rfl, ?_⟩
    exact ret _ _ h' _ (fun b o e => F'.keep b o e) (N'.get (by k_mem)) (N'.get (by k_mem)) (Heap.get?_none_of_le (Nat.le_succ _)) (Heap.get?_none_of_le (Nat.le_refl _))
end
section
open PySem.W.X PySem.Builtin
section
variable {w : World} {A : Around} {E : Value → Shared → Prop} {h : Heap} {g : Array GenState} {d : Drawn} {t : Nat} {os : OsState}
theorem m_notP {α : Type} {Q : α → Shared → Prop} {s : Shared} {c : Prop} [Decidable c] {a b : Sem α} (e : ¬ c) (x : wpAny (model PG w) A b Q E s) : wpAny (model PG w) A (if c then a else b) Q E s := by rw [if_neg e]; exact x
theorem slot_dlen : Slot "collections.deque" "__len__" "collections.deque.__len__" := .of (owner := "collections.deque") (n := "__len__") (by rw [typeLookup_type, builtinLookup_eq_fast]; kernel_rfl) (by decide +kernel) (by decide +kernel) (by decide +kernel)
  (by first | exact .inl (by decide +kernel) | exact .inr (by decide +kernel)) (by rw [isSubtype_type]; kernel_rfl)
theorem slot_dinit : Slot "collections.deque" "__init__" "collections.deque.__init__" := .of (owner := "collections.deque") (n := "__init__") (by rw [typeLookup_type, builtinLookup_eq_fast]; kernel_rfl) (by decide +kernel) (by decide +kernel) (by decide +kernel)
  (by first | exact .inl (by decide +kernel) | exact .inr (by decide +kernel)) (by rw [isSubtype_type]; kernel_rfl)
theorem entry_dlen : entryFor table "collections.deque.__len__" = some Builtin.«collections.deque.__len__» := entryFor_of_tree (by kernel_rfl)
theorem entry_dinit : entryFor table "collections.deque.__init__" = some Builtin.«collections.deque.__init__» := entryFor_of_tree (by kernel_rfl)
theorem entry_dnew : entryFor table "collections.deque.__new__" = some Builtin.«collections.deque.__new__» := entryFor_of_tree (by kernel_rfl)
theorem args_dlen (a : Value) : argsOk "collections.deque.__len__" ⟨[a], []⟩ := by unfold argsOk; kernel_rfl
theorem args_dinit (a : Value) : argsOk "collections.deque.__init__" ⟨[a], []⟩ := by unfold argsOk; kernel_rfl
theorem dnew_check : checkBuiltinCall "collections.deque.__new__" ⟨[.type "collections.deque"], []⟩ = pure () := by kernel_rfl
theorem deq_noBool : typeLookup (.type "collections.deque") "__bool__" = pure none := by rw [typeLookup_type, builtinLookup_eq_fast]; kernel_rfl
theorem deq_len {a : Addr} (ho : h.get? a = some deqO) {Q : Value → Shared → Prop} (x : Q (.int 0 t) ⟨h, g, d, t + 1, os⟩) :
    wpAny (model PG w) A (Builtin.«collections.deque.__len__» ⟨[.ref a], []⟩) (fun fin s' => ∃ v, fin = .done (.ret v) ∧ Q v s') E ⟨h, g, d, t, os⟩ := by
  delta Builtin.«collections.deque.__len__»
  refine wpAny_bind (wpAny_pure ?_)
  refine wpAny_bind ?_
  delta Builtin.Deque.size
  refine wpAny_bind (m_load ho (wpAny_pure ?_))
  exact wpAny_pure (wpAny_bind (wpAny_mkInt (wpAny_pure ⟨_, rfl, x⟩)))
theorem truthy_deq {a : Addr} (ho : h.get? a = some deqO) {Q : Bool → Shared → Prop} (x : Q false ⟨h, g, d, t + 2, os⟩) : wpAny (model PG w) A (truthy (.ref a)) Q E ⟨h, g, d, t, os⟩ := by
  have hT : ∀ t, (⟨h, g, d, t, os⟩ : Shared).TypeIs (.ref a) "collections.deque" := fun t => ⟨_, ho, rfl⟩
  have len : wpAny (model PG w) A (runValue (.builtin "len" ⟨[.ref a], []⟩)) (fun r s' => r = .int 0 (t + 1) ∧ Q false s') E ⟨h, g, d, t, os⟩ := by
    refine wpAny_runValue (codeAny_builtin entry_len ?_)
    rw [Around.under_plainId plain_len _]
    delta Builtin.«len»
    refine wpAny_bind (m := oneArg "len" _) (wpAny_pure ?_)
    refine wpAny_bind (m := callSpecial? (.ref a) (Str.ofString "__len__")) (wpAny_callSpecial?_slot (name := Str.ofString "__len__") (hT _) slot_dlen
      (wpAny_call_entry slot_dlen (hT _) entry_dlen (deq_len ho ?_) (args_dlen _)))
    refine wpAny_bind (wpAny_holding (wpAny_pure ?_))
    refine wpAny_bind (wpAny_letGo ?_)
    exact wpAny_bind (wpAny_mkInt (wpAny_pure ⟨rfl, x⟩))
  unfold truthy
  refine wpAny_bind (wpAny_callSpecial?_none (name := Str.ofString "__bool__") (hT _) deq_noBool ?_)
  refine wpAny_bind (wpAny_specialOf (name := Str.ofString "__len__") (hT _) slot_dlen.lookup ?_)
  exact wpAny_bind (wpAny_mono len (fun r s' h' => by obtain ⟨rfl, hq⟩ := h'; exact wpAny_pure hq) fun _ _ e => e)
theorem call_deq {Q : Value → Shared → Prop} {h₀ : Heap} {chg news : List (Addr × Obj)} (D : Mem h₀ h chg news) (x : ∀ h' t', Mem h₀ h' chg ((h.objs.size, deqO) :: news) → Q (.ref h.objs.size) ⟨h', g, d, t', os⟩) :
    wpAny (model PG w) A (call (.type "collections.deque") []) Q E ⟨h, g, d, t, os⟩ := by
  refine wpAny_call (codeAny_of_tree ?_)
  show wpAny _ A.in1 (callAny (.type "collections.deque") _) _ _ _
  refine wpAny_pure ⟨Code.quiet_builtin _ (by decide +kernel), codeAny_builtin F.entry_type_call ?_⟩
  rw [Around.under_plain (weight_type_call_type "collections.deque" _ []) rfl]
  delta Builtin.«type.__call__»
  refine m_false (by kernel_rfl) ?_
  refine m_false (by kernel_rfl) ?_
  refine wpAny_bind (m_is () (by kernel_rfl) ?_)
  refine wpAny_bind (m_is [Value.type "collections.deque", Value.type "object"] (by kernel_rfl) ?_)
  refine m_false (by kernel_rfl) ?_
  refine wpAny_bind (m_is (some "collections.deque.__new__") (by kernel_rfl) ?_)
  refine wpAny_bind (wpAny_pure ?_)
  refine wpAny_bind (wpAny_holding (wpAny_call (codeAny_of_tree ?_)))
  show wpAny _ A.in1.in1 (callAny (.builtin "collections.deque.__new__") _) _ _ _
  refine wpAny_bind (m_is () dnew_check ?_)
  refine wpAny_pure ⟨plainId_quiet (by decide +kernel) _, codeAny_builtin entry_dnew ?_⟩
  rw [Around.under_plainId (by decide +kernel) _]
  delta Builtin.«collections.deque.__new__»
  refine wpAny_bind ?_
  delta Builtin.Deque.newArgs
  refine wpAny_bind (m_is true (by kernel_rfl) ?_)
  refine m_false (by kernel_rfl) ?_
  refine wpAny_bind (m_is true (by kernel_rfl) ?_)
  refine m_false (by kernel_rfl) ?_
  refine wpAny_pure ?_
  refine wpAny_bind ?_
  delta Builtin.Deque.new
  refine m_notP (by rw [sizeLine_eq]; decide) ?_
  refine m_false (by kernel_rfl) ?_
  refine wpAny_bind (m_is none (by kernel_rfl) ?_)
  refine wpAny_newObj_type (s := ⟨h, g, d, t, os⟩) ?_
  show wpAny _ _ _ _ _ (⟨h.push deqO, g, d, t, os⟩ : Shared)
  replace D := D.alloc (o := deqO) rfl
  generalize h.objs.size = a at D x ⊢
  generalize h.push deqO = h' at D ⊢
  refine wpAny_pure ?_
  replace D : Mem h₀ h' chg ((a, deqO) :: news) := D
  have ho : h'.get? a = some deqO := D.at 0 _ _ rfl
  refine wpAny_bind (m_inst true ho rfl (by rw [isSubtype_type]; kernel_rfl) ?_)
  refine m_false (by kernel_rfl) ?_
  refine wpAny_bind (wpAny_holding ?_)
  delta callSpecial?
  refine wpAny_bind (m_special (some (.builtin "collections.deque.__init__")) ho rfl (by kernel_rfl) ?_)
  refine wpAny_holding ?_
  refine wpAny_bind (m_is (.builtin "collections.deque.__init__", [.ref a]) (slot_dinit.bind _) ?_)
  refine wpAny_bind ?_
  show wpAny _ _ (call (.builtin "collections.deque.__init__") [.ref a]) _ _ _
  refine wpAny_call_entry (T := "collections.deque") slot_dinit ⟨_, ho, rfl⟩ entry_dinit ?_ (args_dinit _)
  delta Builtin.«collections.deque.__init__»
  refine m_notP (show ¬ 0 > 2 by decide) ?_
  refine wpAny_bind (m_is PUnit.unit (by kernel_rfl) ?_)
  refine wpAny_bind (m_is PUnit.unit (by kernel_rfl) ?_)
  refine wpAny_bind (m_is Value.none (by kernel_rfl) ?_)
  refine wpAny_bind ?_
  delta setField
  show wpAny _ _ (updateField a 0 Value.none) _ _ _
  delta updateField
  refine wpAny_bind (m_load ho (wpAny_pure ?_))
  show wpAny _ _ (if 0 < 2 then update a _ else _) _ _ _
  rw [if_pos (by decide)]
  refine m_upd deqO 0 D rfl rfl (fun h' D => ?_)
  refine wpAny_bind ?_
  delta Builtin.Deque.clear
  have ho : h'.get? a = some deqO := D.at 0 _ _ rfl
  refine wpAny_bind (m_load ho (wpAny_pure (wpAny_pure ?_)))
  refine wpAny_pure ⟨_, rfl, wpAny_pure ?_⟩
  refine m_false (by kernel_rfl) ?_
  exact wpAny_pure (x _ _ D)
end
end
section
theorem back4 {g h h' : Heap} {L a b c e : Addr} {m : Str → Option Value} {o1 o2 o3 o4 p1 p2 p3 p4 : Obj} {rest : List (Addr × Obj)} (F : Fr g L h m) (N : News g L h ((a, o1) :: (b, o2) :: (c, o3) :: (e, o4) :: rest))
    (ap : ∀ x ∈ rest, x.1 ≠ a ∧ x.1 ≠ b ∧ x.1 ≠ c ∧ x.1 ≠ e) (k : Kept [a, b, c, e] h h') (h1 : h'.get? a = some p1) (h2 : h'.get? b = some p2) (h3 : h'.get? c = some p3) (h4 : h'.get? e = some p4) :
    Fr g L h' m ∧ News g L h' ((a, p1) :: (b, p2) :: (c, p3) :: (e, p4) :: rest) :=
  back (pre := [(a, o1), (b, o2), (c, o3), (e, o4)]) (post := [(a, p1), (b, p2), (c, p3), (e, p4)]) F N (fun x hx => List.mem_append_left rest hx)
    (fun x hx => ⟨.tail _ (.tail _ (.tail _ (.tail _ hx))), fun q => by
      have := ap x hx
      simp only [List.map_cons, List.map_nil, List.mem_cons, List.not_mem_nil, or_false] at q
      rcases q with q | q | q | q
      · exact this.1 q
      · exact this.2.1 q
      · exact this.2.2.1 q
      · exact this.2.2.2 q⟩) k
    (List.forall_mem_cons.2 ⟨h1, List.forall_mem_cons.2 ⟨h2, List.forall_mem_cons.2 ⟨h3, List.forall_mem_cons.2 ⟨h4, fun _ h => nomatch h⟩⟩⟩⟩)
    (List.forall_mem_cons.2 ⟨.inl (.head _), List.forall_mem_cons.2 ⟨.inl (.tail _ (.head _)), List.forall_mem_cons.2 ⟨.inl (.tail _ (.tail _ (.head _))), List.forall_mem_cons.2 ⟨.inl (.tail _ (.tail _ (.tail _ (.head _)))), fun _ h => nomatch h⟩⟩⟩⟩)
noncomputable abbrev Tok1 (vv : Value) (t : List Nat) (q : Bool) : Prop := (vv = .none ∧ t = [] ∧ q = false) ∨ (∃ tk, vv = .str (tx t) tk ∧ (!t.isEmpty || q) = true)
theorem k_rt {base g : Heap} {L : Addr} {m : Str → Option Value} {env : Env} {s : Shared} {Q : Value → Shared → Prop} {E : Value → Shared → Prop} {rest : List (Addr × Obj)}
    {st dst lx dlx pb fs : Addr} {k1 k2 k3 t0 t1 t2 : Tok} {l : List Nat} {pos : Nat} {k v : Nat → Tok} {WC : Str} {state : Option Nat} {ts : Tok} {ln : Int} {tl tt : Tok} (o : Out)
    (B : Below (ar dp un gd outs) base outs g) (F : Fr g L s.heap m)
    (N : News g L s.heap ((st, instObj 587 dst) :: (dst, sioD w.params k1 k2 k3 t0 t1 t2 (tx l) pos) :: (lx, instObj 722 dlx) :: (dlx, lexD w.params k v WC st pb fs (stV state ts) ln tl (tx []) tt) :: rest)) (X : (pre.heap_1 w.params).In base) (TT : Top p loose mean mg mb base)
    (hf : env.frame = some L) (hk : env.scope.kind = .function) (hne : @Ne Nat st dst) (n1 : @Ne Nat lx st) (n2 : @Ne Nat lx dst) (n3 : @Ne Nat dlx st) (n4 : @Ne Nat dlx dst) (n5 : @Ne Nat lx dlx) (hdp : dp + 11 < recursionLimit) (hu : un + 103 < cLine)
    (hl : pos ≤ l.length) (hT : l.length < 400000) (hst : (state = none ∧ l.drop pos = []) ∨ state = some 32) (ho : Rds (l.drop pos) state false 32 [] o) (hWC : ∀ c ∈ WC.cps.toList, (c == 39 || c == 34) = false)
    (ap : ∀ x ∈ rest, x.1 ≠ st ∧ x.1 ≠ dst ∧ x.1 ≠ lx ∧ x.1 ≠ dlx)
    (q : ∀ t qq st' rst vv, o = .tok t qq st' rst → Tok1 vv t qq → ∀ h' tk' (pos' : Nat) t2' ts' ln' tl' tt', pos' ≤ l.length → l.drop pos' = rst → Fr g L h' m →
      News g L h' ((st, instObj 587 dst) :: (dst, sioD w.params k1 k2 k3 t0 t1 t2' (tx l) (pos' : Int)) :: (lx, instObj 722 dlx) :: (dlx, lexD w.params k v WC st pb fs (stV st' ts') ln' tl' (tx []) tt') :: rest) → Q vv { s with heap := h', toks := tk' })
    (bad : o = .bad → ∀ h' tk' e h₂, Fr g L h₂ m → RaisedN base (env :: outs) e (.type "ValueError") rest h' → h₂.UpToSlots h' → E (.ref e) { s with heap := h', toks := tk' }) :
    wpAny (model PG w) ((ar dp un gd outs).deeper env) (call (.ref 690) [.ref lx]) Q E s := by
  have V := free_of B F N hf (pre := [(st, instObj 587 dst), (dst, sioD w.params k1 k2 k3 t0 t1 t2 (tx l) pos), (lx, instObj 722 dlx), (dlx, lexD w.params k v WC st pb fs (stV state ts) ln tl (tx []) tt)]) fun _ h => List.mem_append_left rest h
  have BX := pushX B F hf hk
  have W1 := base_widest BX V
  have W2 := below_widest (as := [st, dst, lx, dlx]) BX
  have W3 := free_widest (base := base) V
  simp only [List.map_cons, List.map_nil] at W1 W3
  refine call_by fun R ok er => c_rt (dp := dp + 1) (un := un + 3) (outs := env :: outs) (o := o) W2 (X.keeps W1) (TT.keeps W1) W3 hne n1 n2 n3 n4 n5 (by omega) (by omega) hl hT hst ho hWC ?_ ?_
  · intro t qq st' rst vv e1 e2 h' tk' pos' t2' ts' ln' tl' tt' a1 a2 kk b1 b2 b3 b4
    obtain ⟨F', N'⟩ := back4 F N ap kk b1 b2 b3 b4
    exact ok _ _ (q t qq st' rst vv e1 e2 h' tk' pos' t2' ts' ln' tl' tt' a1 a2 F' N')
  · intro e1 h' tk' e r
    have := refused_back (pre := [(st, instObj 587 dst), (dst, sioD w.params k1 k2 k3 t0 t1 t2 (tx l) pos), (lx, instObj 722 dlx), (dlx, lexD w.params k v WC st pb fs (stV state ts) ln tl (tx []) tt)]) (rest := rest) (e := e) (h' := h') B F N hf (fun x hx q => by
      have := ap x hx
      simp only [List.map_cons, List.map_nil, List.mem_cons, List.not_mem_nil, or_false] at q
      rcases q with q | q | q | q
      · exact this.1 q
      · exact this.2.1 q
      · exact this.2.2.1 q
      · exact this.2.2.2 q)
    simp only [List.map_cons, List.map_nil] at this
    obtain ⟨h₂, F₂, R₂, U₂⟩ := this r
    exact er _ _ (bad e1 h' tk' e h₂ F₂ R₂ U₂)
end
section
theorem fill_Gt : PySem.Challenge.rw_ij0136_01 = PySem.Challenge.rw_ij0136_01 ∧ pre.heap_1 = pre.heap_1 := by
  k_with_none
  k_with "my rel" => (repeat' (first | (k_unfold; (try dsimp only)) | walk1 | walk_at "my next" | (dsimp only; walk1) | (leave1; try dsimp only) | fail "no step"))
  k_with "my room" => (((try simp only [depth_mark, depth_under_make, depth_under_kw, depth_in1, depth_deeper, depth_caller]); (try dsimp only [ar]); omega))
  k_with "my units" => ((have hcL9 := cLine_is; (try simp only [units_in1, units_deeper, Around.mark_units, units_caller]); (try dsimp only [ar]); omega))
  k_with "my unf" => ((refine' enter ?k1 ?k2 ?k3 ?k4 ?k6 ?k7 ?k8 ?k9 ?kB ?_ ?c2 ?c3 ?c4 ?c5; (case k1 => assumption); (case k2 => assumption); (case k3 => assumption); (case k4 => assumption); (case k6 => k_is); (case k7 => k_is); (case k8 => k_room); (case k9 => first | exact BindsTo.of_eq rfl | exact binds_K (Frag.In.keeps (by assumption) (Below.stays (by assumption))) rfl (by k_is) rfl rfl rfl); (case c5 => decide); (case kB => exact locs rfl); (case c2 => exact rfl); (case c3 => exact rfl); (case c4 => exact rfl); k_whole; intro g' L' h' G' F' N' B' X' T'; (try simp only [List.map_cons, List.map_nil] at G'); (try dsimp only); (try k_fold)))
  k_with "subscriptTail Attribute Name Slice str ref" => (((with_reducible rename Fr _ _ _ _ => F'); (with_reducible rename News _ _ _ _ => N'); (refine slice_strN_ss (hsz := ?hsz) (s := ⟨_, _, _, _, _⟩) F' N' ?_); (case hsz => (rw [sizeLine_eq]; omega)); intro h' t' tk' F' N'; (try k_sweep)))
  k_with "subscriptTail BinOp Subscript Add Constant Slice str ref" => (((with_reducible rename Fr _ _ _ _ => F'); (with_reducible rename News _ _ _ _ => N'); (refine slice_strN_ns (hsz := ?hsz) (s := ⟨_, _, _, _, _⟩) F' N' ?_); (case hsz => exact size_sl (by with_reducible assumption)); intro h' t' tk' F' N'; (try k_sweep)))
  k_with "call builtin:str.find" => (refine find4 ?_)
  k_with "my apart" => (repeat' (first | (refine List.forall_mem_cons.2 ⟨⟨?_, ?_⟩, ?_⟩) | exact List.forall_mem_nil _ | with_reducible assumption | (apply Ne.symm; with_reducible assumption)))
  k_with "binaryOp Add str str" => (((refine add_str (hsz := size_slc (by with_reducible assumption)) ?_); intro _ _))
  k_with "execs cons" => (((try dsimp only); first | (with_reducible refine nx_last ?_) | ((with_reducible refine nx_cons ?_); intro q' nx')))
  k_with "execs nil" => (with_reducible refine wpAny_execs_nil ?_)
  k_with "my next" => (with_reducible first | refine trq_b ?_ | refine ifq_t ?_ | refine ifq_f ?_ | refine ifq ?_ | refine trq ?_ | refine nx_next (by assumption) ?_ | refine nx_ret (by assumption) ?_ | refine nx_brk (by assumption) ?_ | refine nx_cont (by assumption) ?_)
  k_with "eval Constant int" => (((with_reducible refine int_T ?_); intro t' tk'))
  k_with "eval Constant str" => (((with_reducible refine str_T ?_); intro t' tk'))
  k_with "my nth" => (with_reducible first | exact nth_0 | exact nth_1 | exact nth_2 | exact nth_3 | exact nth_4 | exact nth_5 | exact nth_6)
  k_with "my ne" => (first | with_reducible assumption | exact Ne.symm (by with_reducible assumption) | k_ne)
  k_with "my allne" => (first | with_reducible exact all_nil | (refine' all_cons ?a ?b; (case a => walk_at "my ne"); (case b => walk_at "my allne")))
  k_with "my upd" => (first | (refine' upd_head ?a; (case a => walk_at "my allne")) | (refine' upd_tail ?a ?b; (case a => walk_at "my ne"); (case b => walk_at "my upd")))
  k_with "eval Name" => ((k_here; (with_reducible first | show wpAny _ _ (PySem.eval _ (envOf _ _ _ _ _)) _ _ _ | show wpAny _ _ (PySem.eval _ (envX _ _ _ _ _ _)) _ _ _); k_dflt (refine' name_T ?F ?v ?o ?_; (case F => k_asm); (case o => exact rfl); (case v => rfl); k_whole)))
  k_with "eval Attribute Name" => ((k_here; (with_reducible first | show wpAny _ _ (PySem.eval _ (envOf _ _ _ _ _)) _ _ _ | show wpAny _ _ (PySem.eval _ (envX _ _ _ _ _ _)) _ _ _); k_dflt (refine' own_T ?F ?x ?lo ?X ?N ?h1 ?h2 ?ok ?ho ?hl ?hv ?_; (case F => k_asm); (case lo => exact rfl); (case x => exact rfl); (case X => k_asm); (case N => k_asm); (case h1 => walk_at "my nth"); (case h2 => walk_at "my nth"); (case ok => (intro P9; kernel_rfl)); (case ho => first | exact rfl | walk_at "my isD"); (case hl => first | k_get | walk_at "my getl"); (case hv => first | exact rfl | k_handed); k_whole); intro tk'))
  k_with "getAttr ref" => ((k_here; k_dflt (refine' get_T ?F ?X ?N ?h1 ?h2 ?ok ?ho ?hl ?hv ?_; (case F => k_asm); (case X => k_asm); (case N => k_asm); (case h1 => walk_at "my nth"); (case h2 => walk_at "my nth"); (case ok => (intro P9; kernel_rfl)); (case ho => first | exact rfl | walk_at "my isD"); (case hl => first | k_get | walk_at "my getl"); (case hv => first | exact rfl | k_handed); k_whole); intro tk'))
  k_with "storeName" => ((k_here; (with_reducible first | show wpAny _ _ (PySem.storeName (envOf _ _ _ _ _)  _ _) _ _ _ | show wpAny _ _ (PySem.storeName (envX _ _ _ _ _ _)  _ _) _ _ _); k_dflt (refine' store_T ?F ?N ?o ?_; (case F => k_asm); (case N => k_asm); (case o => exact rfl); k_whole); intro h' tk' F' N'; (try k_sweep)))
  k_with "setAttr ref" => ((k_here; k_dflt (refine' set_T ?F ?X ?N ?h1 ?h2 ?ok ?e ?U ?_; (case F => k_asm); (case X => k_asm); (case N => k_asm); (case h1 => walk_at "my nth"); (case h2 => walk_at "my nth"); (case ok => (intro P9; kernel_rfl)); (case e => walk_at "my puts"); (case U => walk_at "my upd"); k_whole); intro h' tk' F' N'; (try k_sweep)))
  k_with "ite" => (first | with_reducible refine ite_tt ?_ | with_reducible refine ite_ff ?_)
  k_with "my ofb" => (with_reducible first | exact Nat.ne_of_beq_eq_false rfl | exact off1 | exact ffo1 | exact off2 | exact ffo2 | exact off3 | exact ffo3 | exact off4 | exact ffo4 | exact off5 | exact ffo5 | exact off6 | exact ffo6)
  k_with "my off" => (with_reducible first | walk_at "my ofb" | (refine strip ?_; first | walk_at "my ofb" | (refine strip ?_; first | walk_at "my ofb" | (refine strip ?_; first | walk_at "my ofb" | (refine strip ?_; first | walk_at "my ofb" | (refine strip ?_; walk_at "my ofb"))))))
  k_with "my omega" => (with_reducible first | (show _ < _; first | exact room (by assumption) rfl | exact room0 (by assumption) | exact room2 (by assumption) rfl | exact room3 (by assumption) rfl | exact room4 (by assumption) rfl | exact room5 (by assumption) rfl | exact lt_ble rfl | exact om_i63' (by assumption) rfl | exact om_i63 (by assumption) rfl | exact Nat.succ_lt_succ (by assumption) | exact Nat.lt_of_succ_lt_succ (by assumption) | exact Int.ofNat_lt.2 (by assumption) | exact Int.ofNat_lt.1 (by assumption)) | (show _ ≤ _; first | exact Nat.le_of_ble_eq_true rfl | exact Nat.le_refl _ | exact Nat.le_succ _ | exact Nat.le_add_right _ _ | exact om_ltle (by assumption) rfl | exact om_le (by assumption) rfl | exact Nat.le_of_lt (by assumption) | exact Int.ofNat_le.2 (by assumption) | exact Int.natCast_nonneg _ | exact Int.ofNat_le.1 (by assumption) | exact om_addl rfl) | (show _ ≠ _; first | walk_at "my off" | exact om_nne (by assumption)) | (show _ = _; first | exact om_nn (by assumption)) | (show False; first | exact no3 (by assumption) | exact no4 (by assumption) | exact no5 (by assumption) | exact no6 (by assumption)) | fail "no")
  k_with "my cmp" => (((case F => k_asm); (case o => exact rfl); (case v => rfl)))
  k_with "isTrue Compare" => (first | (k_here; (with_reducible first | show wpAny _ _ (isTrue _ (envOf _ _ _ _ _) _) _ _ _ | show wpAny _ _ (isTrue _ (envX _ _ _ _ _ _) _) _ _ _); first | ((with_reducible show wpAny _ _ (isTrue (.Compare (.Name _ _) [_] [.Constant (.str _) _ _] _) _ _) _ _ _); k_dflt (refine' cmp_s ?F ?v ?o ?_ ?m; walk_at "my cmp"; (case m => with_unfolding_all rfl); k_whole; intro t' tk')) | ((with_reducible show wpAny _ _ (isTrue (.Compare (.Name _ _) [_] [.Constant (.int _) _ _] _) _ _) _ _ _); k_dflt (refine' cmp_i ?F ?v ?o ?_ ?m; walk_at "my cmp"; (case m => with_unfolding_all rfl); k_whole; intro t' tk')) | ((with_reducible show wpAny _ _ (isTrue (.Compare (.Name _ _) [_] [.Constant .none _ _] _) _ _) _ _ _); k_dflt (refine' cmp_n ?F ?v ?o ?_ ?m; walk_at "my cmp"; (case m => with_unfolding_all rfl); k_whole)) | ((with_reducible show wpAny _ _ (isTrue (.Compare (.Name _ _) [_] [.Name _ _] _) _ _) _ _ _); k_dflt (refine' cmp_nn ?F ?v ?o ?u ?p ?_ ?m; walk_at "my cmp"; (case p => exact rfl); (case u => rfl); (case m => with_unfolding_all rfl); k_whole))) | with_reducible refine cmp_1 ?_)
  k_with "exec If" => (with_reducible refine if_T ?_)
  k_with "my puts" => (first | with_reducible exact lex_state | with_reducible exact lex_token | with_reducible exact lex_line | with_reducible exact sio_pos)
  k_with "my apart4" => ((simp only [List.forall_mem_cons]; repeat' (first | constructor | exact List.forall_mem_nil _ | (intro x hx; exact absurd hx List.not_mem_nil) | with_reducible assumption | (apply Ne.symm; with_reducible assumption))))
  k_with "truthy ref" => (((with_reducible rename News _ _ _ _ => N'); (refine truthy_deq (News.get N' (by k_mem)) ?_)))
  k_with "call ref" => (((with_reducible show wpAny _ _ (call (Value.ref 690) _) _ _ _); (try dsimp only [List.cons_append, List.nil_append]); (with_reducible rename Fr _ _ _ _ => F'); (with_reducible rename News _ _ _ _ => N'); (with_reducible rename Rds _ _ _ _ _ _ => hRds); (refine' k_rt _ ?B F' N' ?X ?T rfl rfl ?n0 ?n1 ?n2 ?n3 ?n4 ?n5 ?dp ?un ?l ?T1 ?hst hRds ?wc ?ap ?q ?bad; (case B => with_reducible assumption); (case X => with_reducible assumption); (case T => with_reducible assumption); (case dp => omega); (case un => omega); (case n0 => with_reducible assumption); (case n1 => with_reducible assumption); (case n2 => with_reducible assumption); (case n3 => with_reducible assumption); (case n4 => with_reducible assumption); (case n5 => with_reducible assumption); (case l => with_reducible assumption); (case T1 => with_reducible assumption); (case hst => with_reducible assumption); (case wc => with_reducible assumption); (case ap => walk_at "my apart4")); (case' q => (intro t' qq' st' rst' vv' ho' ht' h' tk' pos' t2' ts' ln' tl' tt' hl' hr' F' N'; rcases ht' with ⟨e9, ht9⟩ | ⟨_, e9, ht9⟩ <;> subst e9)); (case' bad => (intro ho' h' tk' e' h₂ F' R' U')); (try dsimp only); (try k_sweep)))
  k_fill
  exact ⟨rfl, rfl⟩
theorem c_get {base : Heap} {s : Shared} {R : Result → Shared → Prop}
    {st dst lx dlx pb fs : Addr} {k1 k2 k3 t0 t1 t2 : Tok} {l : List Nat} {pos : Nat} {k v : Nat → Tok} {WC : Str} {state : Option Nat} {ts : Tok} {ln : Int} {tl tt : Tok} {o : Out}
    (B : Below (ar dp un gd outs) base outs s.heap) (X : (pre.heap_1 w.params).In base) (TT : Top p loose mean mg mb base)
    (V : Free base outs s.heap [(st, instObj 587 dst), (dst, sioD w.params k1 k2 k3 t0 t1 t2 (tx l) pos), (lx, instObj 722 dlx), (dlx, lexD w.params k v WC st pb fs (stV state ts) ln tl (tx []) tt), (pb, deqO), (fs, deqO)])
    (hne : @Ne Nat st dst) (n1 : @Ne Nat lx st) (n2 : @Ne Nat lx dst) (n3 : @Ne Nat dlx st) (n4 : @Ne Nat dlx dst) (n5 : @Ne Nat lx dlx)
    (b1 : @Ne Nat pb st) (b2 : @Ne Nat pb dst) (b3 : @Ne Nat pb lx) (b4 : @Ne Nat pb dlx) (f1 : @Ne Nat fs st) (f2 : @Ne Nat fs dst) (f3 : @Ne Nat fs lx) (f4 : @Ne Nat fs dlx) (hdp : dp + 13 < recursionLimit) (hu : un + 110 < cLine)
    (hl : pos ≤ l.length) (hT : l.length < 400000) (hst : (state = none ∧ l.drop pos = []) ∨ state = some 32) (ho : Rds (l.drop pos) state false 32 [] o)
    (hWC : ∀ c ∈ WC.cps.toList, (c == 39 || c == 34) = false)
    (ret : ∀ t q st' rest vv, o = .tok t q st' rest → Tok1 vv t q → ∀ h' tk' (pos' : Nat) t2' ts' ln' tl' tt', pos' ≤ l.length → l.drop pos' = rest → Kept [st, dst, lx, dlx, pb, fs] s.heap h' →
      h'.get? st = some (instObj 587 dst) → h'.get? dst = some (sioD w.params k1 k2 k3 t0 t1 t2' (tx l) (pos' : Int)) → h'.get? lx = some (instObj 722 dlx) → h'.get? dlx = some (lexD w.params k v WC st pb fs (stV st' ts') ln' tl' (tx []) tt') →
      h'.get? pb = some deqO → h'.get? fs = some deqO → R (.ok (.ret vv)) { s with heap := h', toks := tk' })
    (bad : o = .bad → ∀ h' tk' e, Refused base outs s.heap [st, dst, lx, dlx, pb, fs] e h' → R (.error (.ref e)) { s with heap := h', toks := tk' }) :
    codeAny (model PG w) (ar dp un gd outs) (.call (.ref 683) ⟨[.ref lx], []⟩) R s := by
  k_dflt ktr_unf
  ktr_rel
  all_goals (repeat' (first | k_unfold | dsimp only))
  all_goals (with_reducible rename Fr _ _ _ _ => F')
  all_goals (with_reducible rename Kept _ _ _ => K')
  · exact bad (by with_reducible assumption) _ _ _ (refused_of K' (by with_reducible assumption) (by with_reducible assumption))
  · with_reducible rename News _ _ _ _ => N'
    exact ret _ _ _ _ _ (by with_reducible assumption) (.inl ⟨rfl, by with_reducible assumption⟩) _ _ _ _ _ _ _ _ (by with_reducible assumption) (by with_reducible assumption) (kept_of K' F') (News.get N' (by k_mem)) (News.get N' (by k_mem)) (News.get N' (by k_mem)) (News.get N' (by k_mem)) (News.get N' (by k_mem)) (News.get N' (by k_mem))
  · with_reducible rename News _ _ _ _ => N'
    exact ret _ _ _ _ _ (by with_reducible assumption) (.inr ⟨_, rfl, by with_reducible assumption⟩) _ _ _ _ _ _ _ _ (by with_reducible assumption) (by with_reducible assumption) (kept_of K' F') (News.get N' (by k_mem)) (News.get N' (by k_mem)) (News.get N' (by k_mem)) (News.get N' (by k_mem)) (News.get N' (by k_mem)) (News.get N' (by k_mem))
end
section
theorem fill_Sn : PySem.Challenge.rw_ij0136_01 = PySem.Challenge.rw_ij0136_01 ∧ pre.heap_1 = pre.heap_1 := by
  k_fill
  exact ⟨rfl, rfl⟩
open PySem.W.X PySem.Builtin
structure Lay (h : Heap) (a : Addr) (bases mro : List Value) : Prop where
  at_ : ∃ oc od cd sl, h.get? a = some ⟨oc, od, .cls cd, sl⟩ ∧ cd.bases = bases ∧ cd.mro = mro ∧ cd.slotNames = [] ∧ sl[4]? = some (some .none) ∧ cd.abstract = false ∧ cd.hasDel = false
section
variable {w : World} {A : Around} {E : Value → Shared → Prop} {h : Heap} {g : Array GenState} {d : Drawn} {t : Nat} {os : OsState}
theorem lay587 {P : Params} (X : (pre.heap_1 P).In h) : Lay h 587 [.ref 110] [.ref 587, .ref 110, .ref 83, .type "object"] := ⟨_, _, _, _, X _ _ (by k_is), rfl, rfl, rfl, rfl, rfl, rfl⟩
theorem lay110 {P : Params} (X : (pre.heap_1 P).In h) : Lay h 110 [.ref 83] [.ref 110, .ref 83, .type "object"] := ⟨_, _, _, _, X _ _ (by k_is), rfl, rfl, rfl, rfl, rfl, rfl⟩
theorem lay83 {P : Params} (X : (pre.heap_1 P).In h) : Lay h 83 [.type "object"] [.ref 83, .type "object"] := ⟨_, _, _, _, X _ _ (by k_is), rfl, rfl, rfl, rfl, rfl, rfl⟩
theorem lay_mro {Q : List Value → Shared → Prop} {a : Addr} {bs ms : List Value} (Y : Lay h a bs ms) (x : Q ms ⟨h, g, d, t, os⟩) : wpAny (model PG w) A (mroOf (.ref a)) Q E ⟨h, g, d, t, os⟩ := by
  obtain ⟨oc, od, cd, sl, ha, hb, hm, -⟩ := Y.at_
  delta mroOf
  refine wpAny_bind (m_classData ha rfl (wpAny_pure ?_))
  rw [hm]
  exact x
theorem lay_made {Q : Option String → Shared → Prop} {a : Addr} {bs ms : List Value} {c : Value} (Y : Lay h a bs (c :: ms)) (x : Q none ⟨h, g, d, t, os⟩) : wpAny (model PG w) A (Bind.madeBy (.ref a)) Q E ⟨h, g, d, t, os⟩ := by
  delta Bind.madeBy
  refine wpAny_bind (lay_mro Y ?_)
  obtain ⟨oc, od, cd, sl, ha, hb, hm, hs, h4, -⟩ := Y.at_
  refine wpAny_bind (m_for (wpAny_bind (wpAny_bind (wpAny_loadPart ha (wpAny_pure ?_)))))
  dsimp only
  rw [h4]
  exact wpAny_pure (wpAny_pure x)
theorem lay_names {Q : List Str → Shared → Prop} {a : Addr} {bs ms : List Value} (Y : Lay h a bs ms) (x : Q [] ⟨h, g, d, t, os⟩) : wpAny (model PG w) A (Slots.slotNamesOf (.ref a)) Q E ⟨h, g, d, t, os⟩ := by
  obtain ⟨oc, od, cd, sl, ha, hb, hm, hs, -⟩ := Y.at_
  delta Slots.slotNamesOf
  refine wpAny_bind (m_classData ha rfl (wpAny_pure ?_))
  rw [hs]
  exact x
noncomputable def NoNames (w : World) (h : Heap) (b : Value) : Prop := ∀ A E g d t os (Q : List Str → Shared → Prop), Q [] ⟨h, g, d, t, os⟩ → wpAny (model PG w) A (Slots.slotNamesOf b) Q E ⟨h, g, d, t, os⟩
theorem obj_names : NoNames w h (.type "object") := fun A E g d t os Q x => m_is [] (by kernel_rfl) x
theorem lay_adds {Q : Bool → Shared → Prop} {a : Addr} {b : Value} {ms : List Value} (Y : Lay h a [b] ms) (nb : NoNames w h b) (x : Q false ⟨h, g, d, t, os⟩) : wpAny (model PG w) A (Slots.addsLayout (.ref a)) Q E ⟨h, g, d, t, os⟩ := by
  obtain ⟨oc, od, cd, sl, ha, hb, hm, hs, -⟩ := Y.at_
  delta Slots.addsLayout
  refine wpAny_bind (m_classData ha rfl ?_)
  rw [hb]
  refine wpAny_bind (m_for (wpAny_bind (nb _ _ _ _ _ _ _ (wpAny_pure (m_forNil (wpAny_pure ?_))))))
  rw [hs]
  exact x
noncomputable def Solid (w : World) (h : Heap) (b : Value) : Prop := ∀ A E g d t os (Q : Value → Shared → Prop), Q (.type "object") ⟨h, g, d, t, os⟩ → wpAny (model PG w) A (Slots.solid b) Q E ⟨h, g, d, t, os⟩
theorem solid_obj : Solid w h (.type "object") := fun A E g d t os Q x => m_is _ (by kernel_rfl) x
theorem solid83 {P : Params} (X : (pre.heap_1 P).In h) : Solid w h (.ref 83) := fun A E g d t os Q x => by
  delta Slots.solid
  refine wpAny_bind (lay_mro (lay83 X) ?_)
  refine wpAny_bind (m_for (wpAny_bind (lay_adds (lay83 X) obj_names (wpAny_pure ?_))))
  exact m_is (some (.type "object"), ()) (by kernel_rfl) (wpAny_pure x)
theorem names83 {P : Params} (X : (pre.heap_1 P).In h) : NoNames w h (.ref 83) := fun A E g d t os Q x => lay_names (lay83 X) x
theorem names110 {P : Params} (X : (pre.heap_1 P).In h) : NoNames w h (.ref 110) := fun A E g d t os Q x => lay_names (lay110 X) x
theorem solid110 {P : Params} (X : (pre.heap_1 P).In h) : Solid w h (.ref 110) := fun A E g d t os Q x => by
  delta Slots.solid
  refine wpAny_bind (lay_mro (lay110 X) ?_)
  refine wpAny_bind (m_for (wpAny_bind (lay_adds (lay110 X) (names83 X) (wpAny_pure ?_))))
  refine m_for (wpAny_bind (lay_adds (lay83 X) obj_names (wpAny_pure ?_)))
  exact m_is (some (.type "object"), ()) (by kernel_rfl) (wpAny_pure x)
theorem best {Q : Value → Shared → Prop} {b : Value} (S : Solid w h b) (x : Q b ⟨h, g, d, t, os⟩) : wpAny (model PG w) A (Slots.bestBase [b]) Q E ⟨h, g, d, t, os⟩ := by
  delta Slots.bestBase
  refine wpAny_bind (m_for (wpAny_bind (S _ _ _ _ _ _ _ (wpAny_pure ?_))))
  exact m_forNil (wpAny_pure x)
theorem static587 {P : Params} {Q : Value → Shared → Prop} (X : (pre.heap_1 P).In h) (x : Q (.type "object") ⟨h, g, d, t, os⟩) : wpAny (model PG w) A (Bind.staticBase (.ref 587)) Q E ⟨h, g, d, t, os⟩ := by
  delta Bind.staticBase
  obtain ⟨_, _, c1, _, a1, q1, _⟩ := (lay587 X).at_
  obtain ⟨_, _, c2, _, a2, q2, _⟩ := (lay110 X).at_
  obtain ⟨_, _, c3, _, a3, q3, _⟩ := (lay83 X).at_
  refine wpAny_bind (lay_mro (lay587 X) ?_)
  refine wpAny_bind (m_for (wpAny_bind (lay_made (lay587 X) (wpAny_bind (m_classData a1 rfl ?_)))))
  rw [q1]
  refine wpAny_bind (best (solid110 X) (wpAny_pure ?_))
  refine m_for (wpAny_bind (lay_made (lay110 X) (wpAny_bind (m_classData a2 rfl ?_))))
  rw [q2]
  refine wpAny_bind (best (solid83 X) (wpAny_pure ?_))
  refine m_for (wpAny_bind (lay_made (lay83 X) (wpAny_bind (m_classData a3 rfl ?_))))
  rw [q3]
  refine wpAny_bind (best solid_obj (wpAny_pure ?_))
  refine m_for (wpAny_bind (m_is (some "object.__new__") (by kernel_rfl) (wpAny_pure ?_)))
  exact wpAny_pure x
theorem here587 {P : Params} {Q : Unit → Shared → Prop} (X : (pre.heap_1 P).In h) (x : Q () ⟨h, g, d, t, os⟩) : wpAny (model PG w) A (Bind.madeHere "object.__new__" (.ref 587)) Q E ⟨h, g, d, t, os⟩ := by
  delta Bind.madeHere
  refine wpAny_bind (static587 X (wpAny_bind (m_is (some "object.__new__") (by kernel_rfl) ?_)))
  exact m_is () (by kernel_rfl) x
theorem obj_new {P : Params} {Q : Value → Shared → Prop} (X : (pre.heap_1 P).In h) (x : Q (.ref (h.objs.size + 1)) ⟨(h.push emptyDict).push (instObj 587 h.objs.size), g, d, t, os⟩) : wpAny (model PG w) A (call (.builtin "object.__new__") [.ref 587]) Q E ⟨h, g, d, t, os⟩ := by
  have F := PySem.F.objNew
  refine wpAny_call (codeAny_call_builtin_code (Code.quiet_builtin _ F.quiet) ?_)
  simp only [checkBuiltinCall, F.kind, F.split, F.row]
  have args : Bind.checkArgs "object.__new__" ⟨.hand, "object.__new__", "__new__", .cls, []⟩ ⟨[.ref 587], []⟩ = pure () := by kernel_rfl
  rw [args]
  obtain ⟨oc, od, cd, sl, hC, b1, b2, b3, b4, b5, b6⟩ := (lay587 X).at_
  have top : Looks (model PG w) h (isSubtype (.ref 587) (.type "object")) true := looks_mroIn X (by kernel_rfl)
  have typ : Looks (model PG w) h (isInstance (.ref 587) (.type "type")) true := looks_instIn X (by kernel_rfl)
  have base : Looks (model PG w) h (Bind.staticBase (.ref 587)) (.type "object") := fun A Q E s k q => by
    obtain ⟨hh, g, d, t, os⟩ := s
    exact static587 (X.keeps k) q
  have mo : Looks (model PG w) h (Bind.madeBy (.type "object")) (some "object.__new__") := Looks.of_pure (by kernel_rfl)
  repeat (first | simp only [bne_self_eq_false, Bool.false_eq_true, if_false] | lk)
  refine codeAny_builtin F.entry ?_
  delta Builtin.«object.__new__»
  refine wpAny_bind (wpAny_bind (wpAny_loadPart hC (wpAny_pure ?_)))
  refine wpAny_bind (here587 X ?_)
  refine wpAny_bind (m_classData hC rfl ?_)
  rw [b5]
  refine m_false (by kernel_rfl) ?_
  refine m_true (by kernel_rfl) ?_
  show wpAny _ _ ((alloc emptyDict >>= fun x => pure (some x)) >>= _) _ _ _
  refine wpAny_bind (wpAny_bind (wpAny_alloc (wpAny_pure (wpAny_bind ?_))))
  show wpAny _ _ (newObjAsIs _ _ _) _ _ _
  unfold newObjAsIs classHasDel
  refine wpAny_bind (wpAny_alloc (wpAny_bind (wpAny_bind (wpAny_load (Heap.get?_push_of_some _ (Heap.get?_push_of_some _ hC)) (wpAny_pure ?_)))))
  rw [b6]
  refine wpAny_pure (wpAny_pure ?_)
  show Q _ _
  rw [Heap.size_push]
  exact x
theorem own_make {P : Params} {Q : Value → Shared → Prop} {v : Value} (X : (pre.heap_1 P).In h)
    (hn : codeAny (model PG w) (A.under (.builtin "type.__call__" ⟨[.ref 587, v], []⟩)) (.call (.ref 80) ⟨[.ref 587, v], []⟩)
      (fun r s' => match r with
        | .ok (.ret (.ref a)) => (pre.heap_1 P).In s'.heap ∧ (∃ o, s'.heap.get? a = some o ∧ o.cls = .ref 587) ∧
          codeAny (model PG w) (A.under (.builtin "type.__call__" ⟨[.ref 587, v], []⟩)) (.call (.ref 357) ⟨[.ref a, v], []⟩) (InitBack a fun r s' => match r with | .ok (.ret v) => Q v s' | .ok _ => False | .error e => E e s') s'
        | .ok _ => False
        | .error e => E e s') ⟨h, g, d, t + 1, os⟩) :
    wpAny (model PG w) A (call (.ref 587) [v]) Q E ⟨h, g, d, t, os⟩ := by
  obtain ⟨oc, od, cd, sl, hC, b1, b2, b3, b4, b5, b6⟩ := (lay587 X).at_
  have call : Looks (model PG w) h (specialOf (.ref 587) "__call__") (some (.builtin "type.__call__")) := looks_specialIn X (by kernel_rfl)
  have typ : Looks (model PG w) h (isInstance (.ref 587) (.type "type")) true := looks_instIn X (by kernel_rfl)
  refine wpAny_call (codeAny_of_tree ?_)
  show wpAny _ _ (callAny (.ref 587) _) _ _ _
  refine nd_load hC ?_
  show wpAny _ _ (callAny.viaDunder (.ref 587) _) _ _ _
  unfold callAny.viaDunder
  refine wpAny_bind (call.at ?_)
  dsimp only
  rw [tc_bind]
  refine wpAny_bind (wpAny_pure (wpAny_bind (wpAny_pure ?_)))
  refine wpAny_pure (a := Fin.again (.call (.builtin "type.__call__") ⟨[.ref 587, v], []⟩)) (And.intro rfl ?_)
  refine codeAny_call_builtin_at (Code.quiet_builtin _ (by decide +kernel)) entry_typeCall (check_slot tc_kind tc_split typ (tc_args _ _ _) ?_)
  delta Builtin.«type.__call__»
  refine m_false (by kernel_rfl) ?_
  refine wpAny_bind (lay_mro (lay587 X) ?_)
  refine m_false (by kernel_rfl) ?_
  refine wpAny_bind (lay_made (lay587 X) ?_)
  refine wpAny_bind ?_
  refine cls_bind (K := pre.heap_1 P) (mc := .type "type") X (by kernel_rfl) (show findCls (pre.heap_1 P) (.ref 587) (.type "type") (Str.ofString "__new__") = some (.get (.builtin "staticmethod.__get__") (.ref 84) .none (.ref 587)) by kernel_rfl) (wpAny_call (sm_get (s := ⟨h, g, d, t + 1, os⟩) (f := .ref 80) X (by k_is) (handed_on (by kernel_rfl) ?_)))
  refine wpAny_bind (wpAny_holding (wpAny_call (codeAny_mono hn fun r s' z => ?_)))
  rcases r with e | fl
  · exact z
  obtain ⟨v₁, rfl⟩ : ∃ v₁, fl = .ret v₁ := by
    cases fl with
    | ret v₁ => exact ⟨_, rfl⟩
    | _ => exact z.elim
  cases v₁ with
  | ref a =>
    obtain ⟨X', ⟨o, ho, hcl⟩, z⟩ := z
    obtain ⟨hh, g', d', t', os'⟩ := s'
    have t1 : Looks (model PG w) hh (typeOf (.ref a)) (.ref 587) := by
      rw [← hcl]
      exact (Looks.ld ho).andThen .now
    have i1 : Looks (model PG w) hh (isInstance (.ref a) (.ref 587)) true := t1.andThen (looks_mroIn X' (by kernel_rfl))
    refine wpAny_bind (i1.here ?_)
    refine m_false (by kernel_rfl) ?_
    refine wpAny_bind (wpAny_holding ?_)
    refine wpAny_bind (wpAny_bind (t1.here ((looks_findIn X' (show findIn (pre.heap_1 P) (.ref 587) (Str.ofString "__init__") = some (some (.ref 357)) by kernel_rfl)).here (wpAny_holding (wpAny_bind ((bind_fn X' _ (show typeIn (pre.heap_1 P) (.ref 357) = some (.type "function") by kernel_rfl)).here (wpAny_bind ?_)))))))
    refine wpAny_call (codeAny_mono z fun r s' z => ?_)
    rcases r with e | fl
    · exact z
    cases fl with
    | ret v =>
      obtain ⟨rfl, z⟩ := z
      exact wpAny_pure (wpAny_pure z)
    | _ => exact z.elim
  | _ => exact z.elim
end
section
variable {w : World} {A : Around} {E : Value → Shared → Prop} {s : Shared} {g : Heap} {L : Addr} {m : Str → Option Value} {news : List (Addr × Obj)}
theorem obj_newK {P : Params} {Q : Value → Shared → Prop} (F : Fr g L s.heap m) (X₀ : (pre.heap_1 P).In g) (N : News g L s.heap news)
    (h : ∀ x dx h', Fr g L h' m → News g L h' ((x, instObj 587 dx) :: (dx, dictOf [] 0) :: news) → (∀ p ∈ news, p.1 < dx) → dx < x → Q (.ref x) { s with heap := h' }) :
    wpAny (model PG w) A (call (.builtin "object.__new__") [.ref 587]) Q E s := by
  obtain ⟨hh, gg, d, t, os⟩ := s
  refine obj_new (X₀.keeps F.keep) (h _ hh.objs.size _ ((F.push _).push _) ?_ (fun p hp => Heap.lt_size (N p hp).1) (Nat.lt_succ_self _))
  have := (N.push F emptyDict).push (F.push _) (instObj 587 hh.objs.size)
  rwa [Heap.size_push] at this
theorem call_deqK {Q : Value → Shared → Prop} (F : Fr g L s.heap m) (N : News g L s.heap news)
    (h : ∀ x h' t', Fr g L h' m → News g L h' ((x, deqO) :: news) → (∀ p ∈ news, p.1 < x) → Q (.ref x) { s with heap := h', toks := t' }) :
    wpAny (model PG w) A (call (.type "collections.deque") []) Q E s := by
  obtain ⟨hh, gg, d, t, os⟩ := s
  dsimp only at F N h
  refine call_deq (Mem.start hh) fun h' t' D => ?_
  have k : ∀ b o, hh.get? b = some o → h'.get? b = some o := fun b o e => m_old D e
  have nx : hh.get? hh.objs.size = none := Heap.get?_none_of_le (Nat.le_refl _)
  refine h _ h' t' ⟨F.ns.keeps k, fun b o e => k b o (F.keep b o e), F.above⟩ (fun q hq => ?_) fun q hq => Heap.lt_size (N q hq).1
  rcases List.mem_cons.mp hq with rfl | hq
  · refine ⟨D.at 0 _ _ rfl, Nat.ne_of_gt F.ns.lt, ?_⟩
    cases e : g.get? hh.objs.size with
    | none => rfl
    | some o => have := F.keep _ _ e; rw [nx] at this; cases this
  · exact ⟨k _ _ (N q hq).1, (N q hq).2⟩
end
theorem pw6 {a b c d e f : Nat} (h1 : b < a) (h2 : c < b) (h3 : d < c) (h4 : e < d) (h5 : f < e) : List.Pairwise (α := Nat) (· > ·) [a, b, c, d, e, f] := by
  have r : ∀ {x y z : Nat}, y < x → z < y → z < x := fun p q => Nat.lt_trans q p
  exact .cons (List.forall_mem_cons.mpr ⟨h1, List.forall_mem_cons.mpr ⟨r h1 h2, List.forall_mem_cons.mpr ⟨r (r h1 h2) h3, List.forall_mem_cons.mpr ⟨r (r (r h1 h2) h3) h4, List.forall_mem_cons.mpr ⟨r (r (r (r h1 h2) h3) h4) h5, List.forall_mem_nil _⟩⟩⟩⟩⟩)
    (.cons (List.forall_mem_cons.mpr ⟨h2, List.forall_mem_cons.mpr ⟨r h2 h3, List.forall_mem_cons.mpr ⟨r (r h2 h3) h4, List.forall_mem_cons.mpr ⟨r (r (r h2 h3) h4) h5, List.forall_mem_nil _⟩⟩⟩⟩)
    (.cons (List.forall_mem_cons.mpr ⟨h3, List.forall_mem_cons.mpr ⟨r h3 h4, List.forall_mem_cons.mpr ⟨r (r h3 h4) h5, List.forall_mem_nil _⟩⟩⟩)
    (.cons (List.forall_mem_cons.mpr ⟨h4, List.forall_mem_cons.mpr ⟨r h4 h5, List.forall_mem_nil _⟩⟩)
    (.cons (List.forall_mem_cons.mpr ⟨h5, List.forall_mem_nil _⟩) (.cons (List.forall_mem_nil _) .nil)))))
theorem lexN_end {P : Params} {h₀ g h : Heap} {L : Addr} {m : Str → Option Value} {T : Str} {news : List (Addr × Obj)} {st dst lx dlx pb fs : Addr} {osi olx : Obj} (K : Kept [] h₀ g) (F : Fr g L h m) (N : News g L h news)
    (e0 : (fs, deqO) ∈ news) (e1 : (pb, deqO) ∈ news) (e4 : (st, instObj 587 dst) ∈ news) (e5 : (dst, osi) ∈ news) (e10 : (lx, instObj 722 dlx) ∈ news) (e11 : (dlx, olx) ∈ news)
    (hsi : osi = sioD P (kOf osi 0) (kOf osi 1) (kOf osi 2) (vOf osi 0) (vOf osi 1) (vOf osi 2) T 0)
    (hlx : olx = lexD P (kOf olx) (vOf olx) (sOf olx 5) st pb fs (.str (tx [32]) (vOf olx 11)) 1 (vOf olx 13) (tx []) (vOf olx 15))
    (hw : ((sOf olx 5).cps.toList.all fun c => !(c == 39 || c == 34)) = true) (o1 : @LT.lt Nat _ dlx lx) (o2 : @LT.lt Nat _ lx dst) (o3 : @LT.lt Nat _ dst st) (o4 : @LT.lt Nat _ st pb) (o5 : @LT.lt Nat _ pb fs) : LexMade P h₀ T (.ref lx) h := by
  have nw : ∀ {a : Addr} {o : Obj}, (a, o) ∈ news → h₀.get? a = none := fun {a o} e => by
    cases q : h₀.get? a with
    | none => rfl
    | some o' => have := K a o' q List.not_mem_nil; rw [(N _ e).2.2] at this; cases this
  refine ⟨st, dst, lx, dlx, pb, fs, _, _, _, _, _, _, _, _, _, _, _, _, rfl, kept_of K F, N.get e4, (N.get e5).trans (congrArg some hsi), N.get e10, (N.get e11).trans (congrArg some hlx), N.get e1, N.get e0, ?_, ?_, ?_⟩
  · intro c hc
    have := List.all_eq_true.mp hw c hc
    cases q : (c == 39 || c == 34) with
    | false => rfl
    | true => rw [q] at this; cases this
  · simp only [List.mem_cons, List.not_mem_nil, or_false]
    rintro a (rfl | rfl | rfl | rfl | rfl | rfl)
    · exact nw e4
    · exact nw e5
    · exact nw e10
    · exact nw e11
    · exact nw e1
    · exact nw e0
  · exact pw6 o5 o4 o3 o2 o1
theorem lex_of {P : Params} {st pb fs : Addr} {o x : Obj} (e : o = x) (h : x = lexD P (kOf x) (vOf x) (sOf x 5) st pb fs (.str (tx [32]) (vOf x 11)) 1 (vOf x 13) (tx []) (vOf x 15)) :
    o = lexD P (kOf o) (vOf o) (sOf o 5) st pb fs (.str (tx [32]) (vOf o 11)) 1 (vOf o 13) (tx []) (vOf o 15) := by rw [e]; exact h
theorem lex_wc {o x : Obj} (e : o = x) (h : ((sOf x 5).cps.toList.all fun c => !(c == 39 || c == 34)) = true) : ((sOf o 5).cps.toList.all fun c => !(c == 39 || c == 34)) = true := by rw [e]; exact h
end
section
theorem fill_Lx : PySem.Challenge.rw_ij0136_01 = PySem.Challenge.rw_ij0136_01 ∧ pre.heap_1 = pre.heap_1 := by
  k_with_none
  k_with "my rel" => (repeat' (first | (k_unfold; (try dsimp only)) | walk1 | walk_at "my next" | (dsimp only; walk1) | (leave1; try dsimp only) | fail "no step"))
  k_with "my room" => (((try simp only [depth_mark, depth_under_make, depth_under_kw, depth_in1, depth_deeper, depth_caller]); (try dsimp only [ar]); omega))
  k_with "my units" => ((have hcL9 := cLine_is; (try simp only [units_in1, units_deeper, Around.mark_units, units_caller]); (try dsimp only [ar]); omega))
  k_with "my unf" => ((refine' enter ?k1 ?k2 ?k3 ?k4 ?k6 ?k7 ?k8 ?k9 ?kB ?_ ?c2 ?c3 ?c4 ?c5; (case k1 => assumption); (case k2 => assumption); (case k3 => assumption); (case k4 => assumption); (case k6 => k_is); (case k7 => k_is); (case k8 => k_room); (case k9 => first | exact BindsTo.of_eq rfl | exact binds_K (Frag.In.keeps (by assumption) (Below.stays (by assumption))) rfl (by k_is) rfl rfl rfl); (case c5 => decide); (case kB => exact locs rfl); (case c2 => exact rfl); (case c3 => exact rfl); (case c4 => exact rfl); k_whole; intro g' L' h' G' F' N' B' X' T'; (try simp only [List.map_cons, List.map_nil] at G'); (try dsimp only); (try k_fold)))
  k_with "subscriptTail Attribute Name Slice str ref" => (((with_reducible rename Fr _ _ _ _ => F'); (with_reducible rename News _ _ _ _ => N'); (refine slice_strN_ss (hsz := ?hsz) (s := ⟨_, _, _, _, _⟩) F' N' ?_); (case hsz => (rw [sizeLine_eq]; omega)); intro h' t' tk' F' N'; (try k_sweep)))
  k_with "subscriptTail BinOp Subscript Add Constant Slice str ref" => (((with_reducible rename Fr _ _ _ _ => F'); (with_reducible rename News _ _ _ _ => N'); (refine slice_strN_ns (hsz := ?hsz) (s := ⟨_, _, _, _, _⟩) F' N' ?_); (case hsz => exact size_sl (by with_reducible assumption)); intro h' t' tk' F' N'; (try k_sweep)))
  k_with "call builtin:str.find" => (refine find4 ?_)
  k_with "my apart" => (repeat' (first | (refine List.forall_mem_cons.2 ⟨⟨?_, ?_⟩, ?_⟩) | exact List.forall_mem_nil _ | with_reducible assumption | (apply Ne.symm; with_reducible assumption)))
  k_with "binaryOp Add str str" => (((refine add_str (hsz := size_slc (by with_reducible assumption)) ?_); intro _ _))
  k_with "execs cons" => (((try dsimp only); first | (with_reducible refine nx_last ?_) | ((with_reducible refine nx_cons ?_); intro q' nx')))
  k_with "execs nil" => (with_reducible refine wpAny_execs_nil ?_)
  k_with "my next" => (with_reducible first | refine trq_b ?_ | refine ifq_t ?_ | refine ifq_f ?_ | refine ifq ?_ | refine trq ?_ | refine nx_next (by assumption) ?_ | refine nx_ret (by assumption) ?_ | refine nx_brk (by assumption) ?_ | refine nx_cont (by assumption) ?_)
  k_with "eval Constant int" => (((with_reducible refine int_T ?_); intro t' tk'))
  k_with "eval Constant str" => (((with_reducible refine str_T ?_); intro t' tk'))
  k_with "my nth" => (with_reducible first | exact nth_0 | exact nth_1 | exact nth_2 | exact nth_3 | exact nth_4 | exact nth_5 | exact nth_6)
  k_with "my ne" => (first | with_reducible assumption | exact Ne.symm (by with_reducible assumption) | k_ne)
  k_with "my allne" => (first | with_reducible exact all_nil | (refine' all_cons ?a ?b; (case a => walk_at "my ne"); (case b => walk_at "my allne")))
  k_with "my upd" => (first | (refine' upd_head ?a; (case a => walk_at "my allne")) | (refine' upd_tail ?a ?b; (case a => walk_at "my ne"); (case b => walk_at "my upd")))
  k_with "eval Name" => ((k_here; (with_reducible first | show wpAny _ _ (PySem.eval _ (envOf _ _ _ _ _)) _ _ _ | show wpAny _ _ (PySem.eval _ (envX _ _ _ _ _ _)) _ _ _); k_dflt (refine' name_T ?F ?v ?o ?_; (case F => k_asm); (case o => exact rfl); (case v => rfl); k_whole)))
  k_with "eval Attribute Name" => ((k_here; (with_reducible first | show wpAny _ _ (PySem.eval _ (envOf _ _ _ _ _)) _ _ _ | show wpAny _ _ (PySem.eval _ (envX _ _ _ _ _ _)) _ _ _); k_dflt (refine' own_T ?F ?x ?lo ?X ?N ?h1 ?h2 ?ok ?ho ?hl ?hv ?_; (case F => k_asm); (case lo => exact rfl); (case x => exact rfl); (case X => k_asm); (case N => k_asm); (case h1 => walk_at "my nth"); (case h2 => walk_at "my nth"); (case ok => (intro P9; kernel_rfl)); (case ho => first | exact rfl | walk_at "my isD"); (case hl => first | k_get | walk_at "my getl"); (case hv => first | exact rfl | k_handed); k_whole); intro tk'))
  k_with "getAttr ref" => ((k_here; k_dflt (refine' get_T ?F ?X ?N ?h1 ?h2 ?ok ?ho ?hl ?hv ?_; (case F => k_asm); (case X => k_asm); (case N => k_asm); (case h1 => walk_at "my nth"); (case h2 => walk_at "my nth"); (case ok => (intro P9; kernel_rfl)); (case ho => first | exact rfl | walk_at "my isD"); (case hl => first | k_get | walk_at "my getl"); (case hv => first | exact rfl | k_handed); k_whole); intro tk'))
  k_with "storeName" => ((k_here; (with_reducible first | show wpAny _ _ (PySem.storeName (envOf _ _ _ _ _)  _ _) _ _ _ | show wpAny _ _ (PySem.storeName (envX _ _ _ _ _ _)  _ _) _ _ _); k_dflt (refine' store_T ?F ?N ?o ?_; (case F => k_asm); (case N => k_asm); (case o => exact rfl); k_whole); intro h' tk' F' N'; (try k_sweep)))
  k_with "setAttr ref" => ((k_here; k_dflt (refine' set_T ?F ?X ?N ?h1 ?h2 ?ok ?e ?U ?_; (case F => k_asm); (case X => k_asm); (case N => k_asm); (case h1 => walk_at "my nth"); (case h2 => walk_at "my nth"); (case ok => (intro P9; kernel_rfl)); (case e => walk_at "my puts"); (case U => walk_at "my upd"); k_whole); intro h' tk' F' N'; (try k_sweep)))
  k_with "ite" => (first | with_reducible refine ite_tt ?_ | with_reducible refine ite_ff ?_)
  k_with "my ofb" => (with_reducible first | exact Nat.ne_of_beq_eq_false rfl | exact off1 | exact ffo1 | exact off2 | exact ffo2 | exact off3 | exact ffo3 | exact off4 | exact ffo4 | exact off5 | exact ffo5 | exact off6 | exact ffo6)
  k_with "my off" => (with_reducible first | walk_at "my ofb" | (refine strip ?_; first | walk_at "my ofb" | (refine strip ?_; first | walk_at "my ofb" | (refine strip ?_; first | walk_at "my ofb" | (refine strip ?_; first | walk_at "my ofb" | (refine strip ?_; walk_at "my ofb"))))))
  k_with "my omega" => (with_reducible first | (show _ < _; first | exact room (by assumption) rfl | exact room0 (by assumption) | exact room2 (by assumption) rfl | exact room3 (by assumption) rfl | exact room4 (by assumption) rfl | exact room5 (by assumption) rfl | exact lt_ble rfl | exact om_i63' (by assumption) rfl | exact om_i63 (by assumption) rfl | exact Nat.succ_lt_succ (by assumption) | exact Nat.lt_of_succ_lt_succ (by assumption) | exact Int.ofNat_lt.2 (by assumption) | exact Int.ofNat_lt.1 (by assumption)) | (show _ ≤ _; first | exact Nat.le_of_ble_eq_true rfl | exact Nat.le_refl _ | exact Nat.le_succ _ | exact Nat.le_add_right _ _ | exact om_ltle (by assumption) rfl | exact om_le (by assumption) rfl | exact Nat.le_of_lt (by assumption) | exact Int.ofNat_le.2 (by assumption) | exact Int.natCast_nonneg _ | exact Int.ofNat_le.1 (by assumption) | exact om_addl rfl) | (show _ ≠ _; first | walk_at "my off" | exact om_nne (by assumption)) | (show _ = _; first | exact om_nn (by assumption)) | (show False; first | exact no3 (by assumption) | exact no4 (by assumption) | exact no5 (by assumption) | exact no6 (by assumption)) | fail "no")
  k_with "my cmp" => (((case F => k_asm); (case o => exact rfl); (case v => rfl)))
  k_with "isTrue Compare" => (first | (k_here; (with_reducible first | show wpAny _ _ (isTrue _ (envOf _ _ _ _ _) _) _ _ _ | show wpAny _ _ (isTrue _ (envX _ _ _ _ _ _) _) _ _ _); first | ((with_reducible show wpAny _ _ (isTrue (.Compare (.Name _ _) [_] [.Constant (.str _) _ _] _) _ _) _ _ _); k_dflt (refine' cmp_s ?F ?v ?o ?_ ?m; walk_at "my cmp"; (case m => with_unfolding_all rfl); k_whole; intro t' tk')) | ((with_reducible show wpAny _ _ (isTrue (.Compare (.Name _ _) [_] [.Constant (.int _) _ _] _) _ _) _ _ _); k_dflt (refine' cmp_i ?F ?v ?o ?_ ?m; walk_at "my cmp"; (case m => with_unfolding_all rfl); k_whole; intro t' tk')) | ((with_reducible show wpAny _ _ (isTrue (.Compare (.Name _ _) [_] [.Constant .none _ _] _) _ _) _ _ _); k_dflt (refine' cmp_n ?F ?v ?o ?_ ?m; walk_at "my cmp"; (case m => with_unfolding_all rfl); k_whole)) | ((with_reducible show wpAny _ _ (isTrue (.Compare (.Name _ _) [_] [.Name _ _] _) _ _) _ _ _); k_dflt (refine' cmp_nn ?F ?v ?o ?u ?p ?_ ?m; walk_at "my cmp"; (case p => exact rfl); (case u => rfl); (case m => with_unfolding_all rfl); k_whole))) | with_reducible refine cmp_1 ?_)
  k_with "exec If" => (with_reducible refine if_T ?_)
  k_with "my puts" => (first | with_reducible exact lex_state | with_reducible exact lex_token | with_reducible exact lex_line | with_reducible exact sio_pos)
  k_with "call ref" => (((with_reducible show wpAny _ _ (call (Value.ref 587) _) _ _ _); (refine' own_make ?X ?_; (case X => k_in)); k_dflt k_enter))
  k_with "And" => (((with_reducible show (∃ _, _ ∧ _) ∧ _); (with_reducible rename News _ _ _ _ => N'); k_dflt (refine ⟨⟨instObj 587 _, News.get N' (by k_mem), rfl⟩, ?_⟩; k_enter)))
  k_with "call builtin:object.__new__" => (((refine' obj_newK ?k1 ?k2 ?k3 ?_; (case k1 => k_asm); (case k2 => k_asm); (case k3 => k_asm)); intro x' d' h' F' N' l1 l2; (try k_lt l1); (try k_lt2 l2); (try k_sweep)))
  k_with "call type:collections.deque" => (((refine' call_deqK ?k1 ?k3 ?_; (case k1 => k_asm); (case k3 => k_asm)); intro x' h' t' F' N' l1; (try k_lt l1); (try k_sweep)))
  k_with "my isD" => (exact KD.d (by with_reducible assumption))
  k_with "my nth" => (first | with_reducible exact nth_0 | with_reducible exact nth_1 | with_reducible exact nth_2 | with_reducible exact nth_3 | with_reducible exact nth_4 | with_reducible exact nth_5 | with_reducible exact nth_6 | with_reducible exact nth_7 | with_reducible exact nth_8)
  k_with "my getl" => (first | with_reducible exact get_put (by with_reducible assumption) | (refine' get_put' ?a ?b ?c ?d; (case a => with_reducible assumption); (case b => with_reducible assumption); (case c => exact rfl); (case d => walk_at "my getl")))
  k_with "setAttr ref" => ((k_here; k_dflt (refine' set_N (C := 722) ?F ?X ?N ?h1 ?h2 ?ok ?D ?hn ?U ?_; (case F => k_asm); (case X => k_asm); (case N => k_asm); (case h1 => walk_at "my nth"); (case h2 => walk_at "my nth"); (case ok => (intro P9; kernel_rfl)); (case D => first | with_reducible assumption | exact kd_nil); (case hn => decide); (case U => (intro o'; walk_at "my upd")); k_whole); intro h' tk' t' o' ho' D' F' N'; (try k_sweep)))
  k_with "my chain" => (first | (refine' put_step ?h9 ?e9; (case h9 => with_reducible assumption); (case e9 => walk_at "my chain")) | exact rfl)
  k_with "my ne" => (first | with_reducible assumption | (with_reducible first | exact gt_ne (by assumption) | exact gt_ne (prl1 (by assumption)) | exact gt_ne (prl2 (by assumption)) | exact gt_ne (prl3 (by assumption)) | exact gt_ne (prl4 (by assumption)) | exact gt_ne (prl5 (by assumption)) | exact gt_ne (prl6 (by assumption)) | exact gt_ne (prl7 (by assumption)) | (refine' gt_ne2 ?a ?b; (case b => assumption); (case a => first | assumption | exact prl1 (by assumption) | exact prl2 (by assumption) | exact prl3 (by assumption) | exact prl4 (by assumption) | exact prl5 (by assumption) | exact prl6 (by assumption) | exact prl7 (by assumption))) | exact lt_ne (prj0 (by assumption)) | exact lt_ne (prj1 (by assumption)) | exact lt_ne (prj2 (by assumption)) | exact lt_ne (prj3 (by assumption)) | exact lt_ne (prj4 (by assumption)) | exact lt_ne (prj5 (by assumption)) | exact lt_ne (prl1 (by assumption)) | exact lt_ne (prl2 (by assumption)) | exact lt_ne (prl3 (by assumption)) | exact lt_ne (prl4 (by assumption)) | exact lt_ne (prl5 (by assumption)) | exact lt_ne (by assumption) | fail "no") | k_ne)
  k_fill
  exact ⟨rfl, rfl⟩
theorem c_lexer {base : Heap} {s : Shared} {R : Result → Shared → Prop}
    {l : List Nat} {tt : Tok}
    (B : Below (ar dp un gd outs) base outs s.heap) (X : (pre.heap_1 w.params).In base) (TT : Top p loose mean mg mb base)
    (V : Free base outs s.heap []) (hdp : dp + 13 < recursionLimit) (hu : un + 110 < cLine) (hT : l.length < 400000)
    (ret : ∀ vv h' tk', LexMade w.params s.heap (tx l) vv h' → R (.ok (.ret vv)) { s with heap := h', toks := tk' }) :
    codeAny (model PG w) (ar dp un gd outs) (.call (.ref 766) ⟨[.str (tx l) tt], []⟩) R s := by
  k_dflt ktr_unf
  ktr_rel
  all_goals (repeat' (first | k_unfold | dsimp only))
  with_reducible rename Fr _ _ _ _ => F'
  with_reducible rename News _ _ _ _ => N'
  with_reducible rename Kept _ _ _ => K'
  refine ret _ _ _ (lexN_end K' F' N' (List.mem_of_getElem? (i := 0) rfl) (List.mem_of_getElem? (i := 1) rfl) (List.mem_of_getElem? (i := 2) rfl) (List.mem_of_getElem? (i := 3) rfl) (List.mem_of_getElem? (i := 6) rfl) (List.mem_of_getElem? (i := 7) rfl) ?hsi ?hlx ?hw ?_ ?_ ?_ ?_ ?_)
  case hsi => kernel_rfl
  case hlx => refine' lex_of ?e1 ?h1; (case e1 => walk_at "my chain"); (case h1 => kernel_rfl)
  case hw => refine' lex_wc ?e2 ?h2; (case e2 => walk_at "my chain"); (case h2 => kernel_rfl)
  all_goals (first | (with_reducible first | assumption | exact prj0 (by assumption) | exact prj1 (by assumption) | exact prj2 (by assumption) | exact prj3 (by assumption) | exact prj4 (by assumption) | exact prj5 (by assumption) | exact prj6 (by assumption) | fail "no") | omega)
end
section
theorem fill_Pl : PySem.Challenge.rw_ij0136_01 = PySem.Challenge.rw_ij0136_01 ∧ pre.heap_1 = pre.heap_1 := by
  k_with_none
  k_with "my rel" => (repeat' (first | (k_unfold; (try dsimp only)) | walk1 | walk_at "my next" | (dsimp only; walk1) | (leave1; try dsimp only) | fail "no step"))
  k_with "my room" => (((try simp only [depth_mark, depth_under_make, depth_under_kw, depth_in1, depth_deeper, depth_caller]); (try dsimp only [ar]); omega))
  k_with "my units" => ((have hcL9 := cLine_is; (try simp only [units_in1, units_deeper, Around.mark_units, units_caller]); (try dsimp only [ar]); omega))
  k_with "my unf" => ((refine' enter ?k1 ?k2 ?k3 ?k4 ?k6 ?k7 ?k8 ?k9 ?kB ?_ ?c2 ?c3 ?c4 ?c5; (case k1 => assumption); (case k2 => assumption); (case k3 => assumption); (case k4 => assumption); (case k6 => k_is); (case k7 => k_is); (case k8 => k_room); (case k9 => first | exact BindsTo.of_eq rfl | exact binds_K (Frag.In.keeps (by assumption) (Below.stays (by assumption))) rfl (by k_is) rfl rfl rfl); (case c5 => decide); (case kB => exact locs rfl); (case c2 => exact rfl); (case c3 => exact rfl); (case c4 => exact rfl); k_whole; intro g' L' h' G' F' N' B' X' T'; (try simp only [List.map_cons, List.map_nil] at G'); (try dsimp only); (try k_fold)))
  k_with "subscriptTail Attribute Name Slice str ref" => (((with_reducible rename Fr _ _ _ _ => F'); (with_reducible rename News _ _ _ _ => N'); (refine slice_strN_ss (hsz := ?hsz) (s := ⟨_, _, _, _, _⟩) F' N' ?_); (case hsz => (rw [sizeLine_eq]; omega)); intro h' t' tk' F' N'; (try k_sweep)))
  k_with "subscriptTail BinOp Subscript Add Constant Slice str ref" => (((with_reducible rename Fr _ _ _ _ => F'); (with_reducible rename News _ _ _ _ => N'); (refine slice_strN_ns (hsz := ?hsz) (s := ⟨_, _, _, _, _⟩) F' N' ?_); (case hsz => exact size_sl (by with_reducible assumption)); intro h' t' tk' F' N'; (try k_sweep)))
  k_with "call builtin:str.find" => (refine find4 ?_)
  k_with "my apart" => (repeat' (first | (refine List.forall_mem_cons.2 ⟨⟨?_, ?_⟩, ?_⟩) | exact List.forall_mem_nil _ | with_reducible assumption | (apply Ne.symm; with_reducible assumption)))
  k_with "binaryOp Add str str" => (((refine add_str (hsz := size_slc (by with_reducible assumption)) ?_); intro _ _))
  k_with "execs cons" => (((try dsimp only); first | (with_reducible refine nx_last ?_) | ((with_reducible refine nx_cons ?_); intro q' nx')))
  k_with "execs nil" => (with_reducible refine wpAny_execs_nil ?_)
  k_with "my next" => (with_reducible first | refine trq_b ?_ | refine ifq_t ?_ | refine ifq_f ?_ | refine ifq ?_ | refine trq ?_ | refine nx_next (by assumption) ?_ | refine nx_ret (by assumption) ?_ | refine nx_brk (by assumption) ?_ | refine nx_cont (by assumption) ?_)
  k_with "eval Constant int" => (((with_reducible refine int_T ?_); intro t' tk'))
  k_with "eval Constant str" => (((with_reducible refine str_T ?_); intro t' tk'))
  k_with "my nth" => (with_reducible first | exact nth_0 | exact nth_1 | exact nth_2 | exact nth_3 | exact nth_4 | exact nth_5 | exact nth_6)
  k_with "my ne" => (first | with_reducible assumption | exact Ne.symm (by with_reducible assumption) | k_ne)
  k_with "my allne" => (first | with_reducible exact all_nil | (refine' all_cons ?a ?b; (case a => walk_at "my ne"); (case b => walk_at "my allne")))
  k_with "my upd" => (first | (refine' upd_head ?a; (case a => walk_at "my allne")) | (refine' upd_tail ?a ?b; (case a => walk_at "my ne"); (case b => walk_at "my upd")))
  k_with "eval Name" => ((k_here; (with_reducible first | show wpAny _ _ (PySem.eval _ (envOf _ _ _ _ _)) _ _ _ | show wpAny _ _ (PySem.eval _ (envX _ _ _ _ _ _)) _ _ _); k_dflt (refine' name_T ?F ?v ?o ?_; (case F => k_asm); (case o => exact rfl); (case v => rfl); k_whole)))
  k_with "eval Attribute Name" => ((k_here; (with_reducible first | show wpAny _ _ (PySem.eval _ (envOf _ _ _ _ _)) _ _ _ | show wpAny _ _ (PySem.eval _ (envX _ _ _ _ _ _)) _ _ _); k_dflt (refine' own_T ?F ?x ?lo ?X ?N ?h1 ?h2 ?ok ?ho ?hl ?hv ?_; (case F => k_asm); (case lo => exact rfl); (case x => exact rfl); (case X => k_asm); (case N => k_asm); (case h1 => walk_at "my nth"); (case h2 => walk_at "my nth"); (case ok => (intro P9; kernel_rfl)); (case ho => first | exact rfl | walk_at "my isD"); (case hl => first | k_get | walk_at "my getl"); (case hv => first | exact rfl | k_handed); k_whole); intro tk'))
  k_with "getAttr ref" => ((k_here; k_dflt (refine' get_T ?F ?X ?N ?h1 ?h2 ?ok ?ho ?hl ?hv ?_; (case F => k_asm); (case X => k_asm); (case N => k_asm); (case h1 => walk_at "my nth"); (case h2 => walk_at "my nth"); (case ok => (intro P9; kernel_rfl)); (case ho => first | exact rfl | walk_at "my isD"); (case hl => first | k_get | walk_at "my getl"); (case hv => first | exact rfl | k_handed); k_whole); intro tk'))
  k_with "storeName" => ((k_here; (with_reducible first | show wpAny _ _ (PySem.storeName (envOf _ _ _ _ _)  _ _) _ _ _ | show wpAny _ _ (PySem.storeName (envX _ _ _ _ _ _)  _ _) _ _ _); k_dflt (refine' store_T ?F ?N ?o ?_; (case F => k_asm); (case N => k_asm); (case o => exact rfl); k_whole); intro h' tk' F' N'; (try k_sweep)))
  k_with "setAttr ref" => ((k_here; k_dflt (refine' set_T ?F ?X ?N ?h1 ?h2 ?ok ?e ?U ?_; (case F => k_asm); (case X => k_asm); (case N => k_asm); (case h1 => walk_at "my nth"); (case h2 => walk_at "my nth"); (case ok => (intro P9; kernel_rfl)); (case e => walk_at "my puts"); (case U => walk_at "my upd"); k_whole); intro h' tk' F' N'; (try k_sweep)))
  k_with "ite" => (first | with_reducible refine ite_tt ?_ | with_reducible refine ite_ff ?_)
  k_with "my ofb" => (with_reducible first | exact Nat.ne_of_beq_eq_false rfl | exact off1 | exact ffo1 | exact off2 | exact ffo2 | exact off3 | exact ffo3 | exact off4 | exact ffo4 | exact off5 | exact ffo5 | exact off6 | exact ffo6)
  k_with "my off" => (with_reducible first | walk_at "my ofb" | (refine strip ?_; first | walk_at "my ofb" | (refine strip ?_; first | walk_at "my ofb" | (refine strip ?_; first | walk_at "my ofb" | (refine strip ?_; first | walk_at "my ofb" | (refine strip ?_; walk_at "my ofb"))))))
  k_with "my omega" => (with_reducible first | (show _ < _; first | exact room (by assumption) rfl | exact room0 (by assumption) | exact room2 (by assumption) rfl | exact room3 (by assumption) rfl | exact room4 (by assumption) rfl | exact room5 (by assumption) rfl | exact lt_ble rfl | exact om_i63' (by assumption) rfl | exact om_i63 (by assumption) rfl | exact Nat.succ_lt_succ (by assumption) | exact Nat.lt_of_succ_lt_succ (by assumption) | exact Int.ofNat_lt.2 (by assumption) | exact Int.ofNat_lt.1 (by assumption)) | (show _ ≤ _; first | exact Nat.le_of_ble_eq_true rfl | exact Nat.le_refl _ | exact Nat.le_succ _ | exact Nat.le_add_right _ _ | exact om_ltle (by assumption) rfl | exact om_le (by assumption) rfl | exact Nat.le_of_lt (by assumption) | exact Int.ofNat_le.2 (by assumption) | exact Int.natCast_nonneg _ | exact Int.ofNat_le.1 (by assumption) | exact om_addl rfl) | (show _ ≠ _; first | walk_at "my off" | exact om_nne (by assumption)) | (show _ = _; first | exact om_nn (by assumption)) | (show False; first | exact no3 (by assumption) | exact no4 (by assumption) | exact no5 (by assumption) | exact no6 (by assumption)) | fail "no")
  k_with "my cmp" => (((case F => k_asm); (case o => exact rfl); (case v => rfl)))
  k_with "isTrue Compare" => (first | (k_here; (with_reducible first | show wpAny _ _ (isTrue _ (envOf _ _ _ _ _) _) _ _ _ | show wpAny _ _ (isTrue _ (envX _ _ _ _ _ _) _) _ _ _); first | ((with_reducible show wpAny _ _ (isTrue (.Compare (.Name _ _) [_] [.Constant (.str _) _ _] _) _ _) _ _ _); k_dflt (refine' cmp_s ?F ?v ?o ?_ ?m; walk_at "my cmp"; (case m => with_unfolding_all rfl); k_whole; intro t' tk')) | ((with_reducible show wpAny _ _ (isTrue (.Compare (.Name _ _) [_] [.Constant (.int _) _ _] _) _ _) _ _ _); k_dflt (refine' cmp_i ?F ?v ?o ?_ ?m; walk_at "my cmp"; (case m => with_unfolding_all rfl); k_whole; intro t' tk')) | ((with_reducible show wpAny _ _ (isTrue (.Compare (.Name _ _) [_] [.Constant .none _ _] _) _ _) _ _ _); k_dflt (refine' cmp_n ?F ?v ?o ?_ ?m; walk_at "my cmp"; (case m => with_unfolding_all rfl); k_whole)) | ((with_reducible show wpAny _ _ (isTrue (.Compare (.Name _ _) [_] [.Name _ _] _) _ _) _ _ _); k_dflt (refine' cmp_nn ?F ?v ?o ?u ?p ?_ ?m; walk_at "my cmp"; (case p => exact rfl); (case u => rfl); (case m => with_unfolding_all rfl); k_whole))) | with_reducible refine cmp_1 ?_)
  k_with "exec If" => (with_reducible refine if_T ?_)
  k_with "my puts" => (first | with_reducible exact lex_state | with_reducible exact lex_token | with_reducible exact lex_line | with_reducible exact sio_pos)
  k_with "ite" => (first | with_reducible refine ite_tt ?_ | with_reducible refine ite_ff ?_)
  k_fill
  exact ⟨rfl, rfl⟩
theorem is_str_none {prog : Program} {w : World} {A : Around} {E : Value → Shared → Prop} {s : Shared} {Q : Value → Shared → Prop} {x : Str} {t : Tok} (h : Q (.bool false) s) : wpAny (model prog w) A (compareOp .Is (.str x t) .none) Q E s := wpAny_pure h
theorem isnot_str_none {prog : Program} {w : World} {A : Around} {E : Value → Shared → Prop} {s : Shared} {Q : Value → Shared → Prop} {x : Str} {t : Tok} (h : Q (.bool true) s) : wpAny (model prog w) A (compareOp .IsNot (.str x t) .none) Q E s := wpAny_pure h
theorem lines_Pl_0 : True := by
  k_with "compareOp Is str none" => (with_reducible refine is_str_none ?_)
  k_with "compareOp IsNot str none" => (with_reducible refine isnot_str_none ?_)
  trivial
inductive PlaceIs : List Nat → Nat → Prop where
  | mk (k : Nat) (h : k < 5) : PlaceIs (word k) k
theorem flat_at {v : Value} {d : PyData} (i : Int) (h : PyProof.V.Flat v d) (e : d = .int i) : ∃ t, v = .int i t := by subst e; exact h.int_inv
theorem c_place {base : Heap} {s : Shared} {R : Result → Shared → Prop}
    {t : List Nat} {tt : Tok} {n : Nat} (hn : PlaceIs t n)
    (B : Below (ar dp un gd outs) base outs s.heap) (X : (pre.heap_1 w.params).In base) (TT : Top p loose mean mg mb base)
    (V : Free base outs s.heap []) (hdp : dp + 13 < recursionLimit) (hu : un + 110 < cLine) (hT : t.length < 1000)
    (ret : ∀ h' tk' tk2, Kept [] s.heap h' → R (.ok (.ret (.int n tk2))) { s with heap := h', toks := tk' }) :
    codeAny (model PG w) (ar dp un gd outs) (.call (.ref 759) ⟨[.str (tx t) tt], []⟩) R s := by
  k_dflt ktr_unf
  ktr_rel
  all_goals (repeat' (first | k_unfold | dsimp only))
  with_reducible rename Fr _ _ _ _ => F'
  with_reducible rename Kept _ _ _ => K'
  with_reducible rename PyProof.V.Flat _ _ => hv
  obtain ⟨_, hk⟩ := hn
  rcases n with _ | _ | _ | _ | _ | k
  · obtain ⟨u, rfl⟩ := flat_at 0 hv (by kernel_rfl)
    exact ret _ _ _ (kept_of K' F')
  · obtain ⟨u, rfl⟩ := flat_at 1 hv (by kernel_rfl)
    exact ret _ _ _ (kept_of K' F')
  · obtain ⟨u, rfl⟩ := flat_at 2 hv (by kernel_rfl)
    exact ret _ _ _ (kept_of K' F')
  · obtain ⟨u, rfl⟩ := flat_at 3 hv (by kernel_rfl)
    exact ret _ _ _ (kept_of K' F')
  · obtain ⟨u, rfl⟩ := flat_at 4 hv (by kernel_rfl)
    exact ret _ _ _ (kept_of K' F')
  · omega
theorem c_place0 {base : Heap} {s : Shared} {R : Result → Shared → Prop}
    (B : Below (ar dp un gd outs) base outs s.heap) (X : (pre.heap_1 w.params).In base) (TT : Top p loose mean mg mb base)
    (V : Free base outs s.heap []) (hdp : dp + 13 < recursionLimit) (hu : un + 110 < cLine)
    (ret : ∀ h' tk' tk2, Kept [] s.heap h' → R (.ok (.ret (.int (-1) tk2))) { s with heap := h', toks := tk' }) :
    codeAny (model PG w) (ar dp un gd outs) (.call (.ref 759) ⟨[.none], []⟩) R s := by
  k_dflt ktr_unf
  ktr_rel
  all_goals (repeat' (first | k_unfold | dsimp only))
  with_reducible rename Fr _ _ _ _ => F'
  with_reducible rename Kept _ _ _ => K'
  exact ret _ _ _ (kept_of K' F')
end
section
open PySem.W.X
structure LxC where
  st : Addr
  dst : Addr
  lx : Addr
  dlx : Addr
  pb : Addr
  fs : Addr
  k1 : Tok
  k2 : Tok
  k3 : Tok
  t0 : Tok
  t1 : Tok
  k : Nat → Tok
  v : Nat → Tok
  WC : Str
  l : List Nat
noncomputable abbrev LxC.led (c : LxC) (P : Params) (pos : Nat) (t2 : Tok) (state : Option Nat) (ts : Tok) (ln : Int) (tl tt : Tok) : List (Addr × Obj) :=
  [(c.st, instObj 587 c.dst), (c.dst, sioD P c.k1 c.k2 c.k3 c.t0 c.t1 t2 (tx c.l) pos), (c.lx, instObj 722 c.dlx), (c.dlx, lexD P c.k c.v c.WC c.st c.pb c.fs (stV state ts) ln tl (tx []) tt), (c.pb, deqO), (c.fs, deqO)]
noncomputable abbrev LxC.as (c : LxC) : List Addr := [c.st, c.dst, c.lx, c.dlx, c.pb, c.fs]
structure LxC.Ok (c : LxC) : Prop where
  ord : [c.fs, c.pb, c.st, c.dst, c.lx, c.dlx].Pairwise (· > ·)
  wc : ∀ x ∈ c.WC.cps.toList, (x == 39 || x == 34) = false
  len : c.l.length < 400000
noncomputable def LxC.At (c : LxC) (P : Params) (ks : List Nat) (torn : Bool) (led : List (Addr × Obj)) : Prop :=
  ∃ pos t2 ts ln tl tt, led = c.led P pos t2 (some 32) ts ln tl tt ∧ pos ≤ c.l.length ∧ Reads (c.l.drop pos) ks torn
noncomputable def LxC.Led (c : LxC) (led : List (Addr × Obj)) : Prop := led.map (·.1) = c.as
theorem LxC.At.led {c : LxC} {P : Params} {ks : List Nat} {torn : Bool} {led : List (Addr × Obj)} (h : c.At P ks torn led) : c.Led led := by
  obtain ⟨_, _, _, _, _, _, rfl, _⟩ := h; rfl
theorem reads_rd {cs ks : List Nat} {b : Bool} (h : Reads cs ks b) : ∃ o, Rd cs o ∧ ((o = .bad ∧ ks = [] ∧ b = true) ∨ (o = .tok [] false none [] ∧ ks = [] ∧ b = false) ∨ ∃ k ks' q rest, ks = k :: ks' ∧ k < 5 ∧ (!(word k).isEmpty || q) = true ∧ o = .tok (word k) q (some 32) rest ∧ Reads rest ks' b) := by
  cases h with
  | fin h => exact ⟨_, h, .inr (.inl ⟨rfl, rfl, rfl⟩)⟩
  | torn h => exact ⟨_, h, .inl ⟨rfl, rfl, rfl⟩⟩
  | word hk hq h r => exact ⟨_, h, .inr (.inr ⟨_, _, _, _, rfl, hk, hq, rfl, r⟩)⟩
theorem rds_rd {cs : List Nat} {o : Out} (h : Rd cs o) : Rds cs (some 32) false 32 [] o := fun n hn => h n hn
theorem k_get {base g : Heap} {L : Addr} {m : Str → Option Value} {env : Env} {s : Shared} {Q : Value → Shared → Prop} {E : Value → Shared → Prop} {led rest : List (Addr × Obj)}
    (c : LxC) {ks : List Nat} {torn : Bool}
    (B : Below (ar dp un gd outs) base outs g) (F : Fr g L s.heap m) (N : News g L s.heap (led ++ rest)) (X : (pre.heap_1 w.params).In base) (TT : Top p loose mean mg mb base)
    (hf : env.frame = some L) (hk : env.scope.kind = .function) (hc : c.Ok) (hat : c.At w.params ks torn led) (ap : ∀ x ∈ rest, x.1 ∉ c.as) (hdp : dp + 14 < recursionLimit) (hu : un + 113 < cLine)
    (q0 : ks = [] → torn = false → ∀ h' tk' led', c.Led led' → Fr g L h' m → News g L h' (led' ++ rest) → Q .none { s with heap := h', toks := tk' })
    (q1 : ∀ k ks', ks = k :: ks' → k < 5 → ∀ tk h' tk' led', c.At w.params ks' torn led' → Fr g L h' m → News g L h' (led' ++ rest) → Q (.str (tx (word k)) tk) { s with heap := h', toks := tk' })
    (bad : ks = [] → torn = true → ∀ h' tk' e h₂, Fr g L h₂ m → RaisedN base (env :: outs) e (.type "ValueError") rest h' → h₂.UpToSlots h' → E (.ref e) { s with heap := h', toks := tk' }) :
    wpAny (model PG w) ((ar dp un gd outs).deeper env) (call (.ref 683) [.ref c.lx]) Q E s := by
  obtain ⟨pos, t2, ts, ln, tl, tt, rfl, hl, hr⟩ := hat
  obtain ⟨o, hrd, hcase⟩ := reads_rd hr
  have V := free_of B F N hf (pre := c.led w.params pos t2 (some 32) ts ln tl tt) fun _ h => List.mem_append_left rest h
  have BX := pushX B F hf hk
  have W1 := base_widest BX V
  have W2 := below_widest (as := c.as) BX
  have W3 := free_widest (base := base) V
  simp only [List.map_cons, List.map_nil] at W1 W3
  have ord := hc.ord
  simp only [List.pairwise_cons, List.mem_cons, List.not_mem_nil, or_false, false_imp_iff, implies_true, List.Pairwise.nil, and_true, forall_eq_or_imp, forall_eq] at ord
  obtain ⟨⟨q1', q2, q3, q4, q5⟩, ⟨q6, q7, q8, q9⟩, ⟨q10, q11, q12⟩, ⟨q13, q14⟩, q15⟩ := ord
  have gt : ∀ {a b : Addr}, a > b → @Ne Nat a b := fun h => Nat.ne_of_gt h
  have lt : ∀ {a b : Addr}, a > b → @Ne Nat b a := fun h => Nat.ne_of_lt h
  have sub : ∀ x ∈ c.led w.params pos t2 (some 32) ts ln tl tt, x ∈ c.led w.params pos t2 (some 32) ts ln tl tt ++ rest := fun x hx => List.mem_append_left _ hx
  have hrest : ∀ x ∈ rest, x ∈ c.led w.params pos t2 (some 32) ts ln tl tt ++ rest ∧ x.1 ∉ (c.led w.params pos t2 (some 32) ts ln tl tt).map (·.1) := fun x hx => ⟨List.mem_append_right _ hx, ap x hx⟩
  refine call_by fun R ok er => c_get (dp := dp + 1) (un := un + 3) (outs := env :: outs) (o := o) W2 (X.keeps W1) (TT.keeps W1) W3 (gt q10) (lt q11) (lt q13) (lt q12) (lt q14) (gt q15) (gt q6) (gt q7) (gt q8) (gt q9) (gt q2) (gt q3) (gt q4) (gt q5) (by omega) (by omega) hl hc.len (.inr rfl) (rds_rd hrd) hc.wc ?_ ?_
  · intro t qq st' rst vv e1 e2 h' tk' pos' t2' ts' ln' tl' tt' a1 a2 kk b1 b2 b3 b4 b5 b6
    obtain ⟨F', N'⟩ := back (post := c.led w.params pos' t2' st' ts' ln' tl' tt') F N sub hrest kk (List.forall_mem_cons.2 ⟨b1, List.forall_mem_cons.2 ⟨b2, List.forall_mem_cons.2 ⟨b3, List.forall_mem_cons.2 ⟨b4, List.forall_mem_cons.2 ⟨b5, List.forall_mem_cons.2 ⟨b6, fun _ h => nomatch h⟩⟩⟩⟩⟩⟩)
      (fun x hx => .inl (show x.1 ∈ c.as from (List.mem_map_of_mem (f := (·.1)) hx : x.1 ∈ (c.led w.params pos' t2' st' ts' ln' tl' tt').map (·.1))))
    refine ok _ _ ?_
    rcases hcase with ⟨rfl, _, _⟩ | ⟨rfl, hks, hto⟩ | ⟨k, ks', q, rest', hks, hk5, hq, rfl, hr'⟩
    · cases e1
    · cases e1
      rcases e2 with ⟨rfl, _⟩ | ⟨tk, rfl, e3⟩
      · exact q0 hks hto h' tk' (c.led w.params pos' t2' none ts' ln' tl' tt') rfl F' N'
      · cases e3
    · cases e1
      rcases e2 with ⟨rfl, e4, e5⟩ | ⟨tk, rfl, e3⟩
      · rw [e4, e5] at hq; cases hq
      · exact q1 k ks' hks hk5 tk h' tk' _ ⟨pos', t2', ts', ln', tl', tt', rfl, a1, by rw [a2]; exact hr'⟩ F' N'
  · intro e1 h' tk' e r
    have := refused_back (pre := c.led w.params pos t2 (some 32) ts ln tl tt) (rest := rest) (e := e) (h' := h') B F N hf ap
    obtain ⟨h₂, F₂, R₂, U₂⟩ := this r
    refine er _ _ ?_
    rcases hcase with ⟨_, hks, hto⟩ | ⟨h9, _, _⟩ | ⟨k, ks', q, rest', _, _, _, h9, _⟩
    · exact bad hks hto h' tk' e h₂ F₂ R₂ U₂
    · rw [e1] at h9; cases h9
    · rw [e1] at h9; cases h9
theorem news_swap {g h : Heap} {L : Addr} {a b : List (Addr × Obj)} (N : News g L h (a ++ b)) : News g L h (b ++ a) := fun q hq => N q (by rcases List.mem_append.mp hq with h | h <;> simp [h])
theorem k_lex {base g : Heap} {L : Addr} {m : Str → Option Value} {env : Env} {s : Shared} {Q : Value → Shared → Prop} {E : Value → Shared → Prop} {rest : List (Addr × Obj)}
    {l ks : List Nat} {torn : Bool} {tt : Tok}
    (B : Below (ar dp un gd outs) base outs g) (F : Fr g L s.heap m) (N : News g L s.heap rest) (X : (pre.heap_1 w.params).In base) (TT : Top p loose mean mg mb base)
    (hf : env.frame = some L) (hk : env.scope.kind = .function) (hr : Reads l ks torn) (hT : l.length < 400000) (hdp : dp + 15 < recursionLimit) (hu : un + 113 < cLine)
    (q : ∀ (c : LxC) led h' tk', c.Ok → c.At w.params ks torn led → (∀ x ∈ rest, x.1 ∉ c.as) → Fr g L h' m → News g L h' (led ++ rest) → Q (.ref c.lx) { s with heap := h', toks := tk' }) :
    wpAny (model PG w) ((ar dp un gd outs).deeper env) (call (.ref 766) [.str (tx l) tt]) Q E s := by
  refine call_by fun R ok er => c_lexer (dp := dp + 1) (un := un + 3) (outs := env :: outs) (pushX B F hf hk) X TT (free_of B F N hf fun _ h => nomatch h) (by omega) (by omega) hT ?_
  rintro vv h' tk' ⟨st, dst, lx, dlx, pb, fs, k1, k2, k3, t0, t1, t2, k, v, WC, ts, tl, tt', rfl, kk, b1, b2, b3, b4, b5, b6, hw, hn, ho⟩
  have hn' : ∀ x ∈ rest, x.1 ∉ [st, dst, lx, dlx, pb, fs] := fun x hx hm => by
    have := hn _ hm
    rw [(N x hx).1] at this
    cases this
  obtain ⟨F', N'⟩ := back (pre := []) (post := [(st, instObj 587 dst), (dst, sioD w.params k1 k2 k3 t0 t1 t2 (tx l) (0 : Nat)), (lx, instObj 722 dlx), (dlx, lexD w.params k v WC st pb fs (stV (some 32) ts) 1 tl (tx []) tt'), (pb, deqO), (fs, deqO)]) F N (fun _ h => nomatch h) (fun x hx => ⟨hx, List.not_mem_nil⟩) kk
      (List.forall_mem_cons.2 ⟨b1, List.forall_mem_cons.2 ⟨b2, List.forall_mem_cons.2 ⟨b3, List.forall_mem_cons.2 ⟨b4, List.forall_mem_cons.2 ⟨b5, List.forall_mem_cons.2 ⟨b6, fun _ h => nomatch h⟩⟩⟩⟩⟩⟩)
      (fun x hx => .inr (hn _ (show x.1 ∈ [st, dst, lx, dlx, pb, fs] from (List.mem_map_of_mem (f := (·.1)) hx))))
  exact ok _ _ (q ⟨st, dst, lx, dlx, pb, fs, k1, k2, k3, t0, t1, k, v, WC, l⟩ _ h' tk' ⟨ho, hw, hT⟩ ⟨0, t2, ts, 1, tl, tt', rfl, Nat.zero_le _, hr⟩ hn' F' N')
inductive PlV : Value → Int → Prop where
  | non : PlV .none (-1)
  | word (k : Nat) (tk : Tok) (h : k < 5) : PlV (.str (tx (word k)) tk) k
theorem k_place {base g : Heap} {L : Addr} {m : Str → Option Value} {env : Env} {s : Shared} {Q : Value → Shared → Prop} {E : Value → Shared → Prop} {rest : List (Addr × Obj)}
    {va : Value} {pa : Int}
    (B : Below (ar dp un gd outs) base outs g) (F : Fr g L s.heap m) (N : News g L s.heap rest) (X : (pre.heap_1 w.params).In base) (TT : Top p loose mean mg mb base)
    (hf : env.frame = some L) (hk : env.scope.kind = .function) (hp : PlV va pa) (hdp : dp + 15 < recursionLimit) (hu : un + 113 < cLine)
    (q : ∀ tk h' tk', Fr g L h' m → News g L h' rest → Q (.int pa tk) { s with heap := h', toks := tk' }) :
    wpAny (model PG w) ((ar dp un gd outs).deeper env) (call (.ref 759) [va]) Q E s := by
  cases hp with
  | non => exact call_by fun R ok er => c_place0 (dp := dp + 1) (un := un + 3) (outs := env :: outs) (pushX B F hf hk) X TT (free_of B F N hf fun _ h => nomatch h) (by omega) (by omega) fun h' tk' tk2 kk => ok _ _ (q tk2 h' tk' (back0 F N kk).1 (back0 F N kk).2)
  | word k tk h =>
    have hlen : (word k).length < 1000 := by
      rcases k with _ | _ | _ | _ | _ | k
      · decide
      · decide
      · decide
      · decide
      · decide
      · exact (no5 h).elim
    exact call_by fun R ok er => c_place (dp := dp + 1) (un := un + 3) (outs := env :: outs) (.mk k h) (pushX B F hf hk) X TT (free_of B F N hf fun _ h => nomatch h) (by omega) (by omega) hlen fun h' tk' tk2 kk => ok _ _ (q tk2 h' tk' (back0 F N kk).1 (back0 F N kk).2)
theorem k_getR {base g : Heap} {L : Addr} {m : Str → Option Value} {env : Env} {s : Shared} {Q : Value → Shared → Prop} {E : Value → Shared → Prop} {led rest : List (Addr × Obj)}
    (c : LxC) {ks : List Nat} {torn : Bool}
    (B : Below (ar dp un gd outs) base outs g) (F : Fr g L s.heap m) (N : News g L s.heap (rest ++ led)) (X : (pre.heap_1 w.params).In base) (TT : Top p loose mean mg mb base)
    (hf : env.frame = some L) (hk : env.scope.kind = .function) (hc : c.Ok) (hat : c.At w.params ks torn led) (ap : ∀ x ∈ rest, x.1 ∉ c.as) (hdp : dp + 14 < recursionLimit) (hu : un + 113 < cLine)
    (q0 : ks = [] → torn = false → ∀ h' tk' led', c.Led led' → Fr g L h' m → News g L h' (rest ++ led') → Q .none { s with heap := h', toks := tk' })
    (q1 : ∀ k ks', ks = k :: ks' → k < 5 → ∀ tk h' tk' led', c.At w.params ks' torn led' → Fr g L h' m → News g L h' (rest ++ led') → Q (.str (tx (word k)) tk) { s with heap := h', toks := tk' })
    (bad : ks = [] → torn = true → ∀ h' tk' e h₂, Fr g L h₂ m → RaisedN base (env :: outs) e (.type "ValueError") rest h' → h₂.UpToSlots h' → E (.ref e) { s with heap := h', toks := tk' }) :
    wpAny (model PG w) ((ar dp un gd outs).deeper env) (call (.ref 683) [.ref c.lx]) Q E s :=
  k_get c B F (news_swap N) X TT hf hk hc hat ap hdp hu (fun a b h' tk' led' x F' N' => q0 a b h' tk' led' x F' (news_swap N')) (fun k ks' a b tk h' tk' led' x F' N' => q1 k ks' a b tk h' tk' led' x F' (news_swap N')) bad
noncomputable def CmpSt (P : Params) (cL cR : LxC) (r : Option Int) (n : Nat) (va vb : Value) (ledL ledR : List (Addr × Obj)) : Prop :=
  ∃ pa pb, PlV va pa ∧ PlV vb pb ∧ cL.Led ledL ∧ cR.Led ledR ∧ ((pa ≠ pb ∨ pa = -1) → r = some (7 * (pa - pb))) ∧
    (pa = pb → pa ≠ -1 → ∃ ka ta kb tb, cL.At P ka ta ledL ∧ cR.At P kb tb ledR ∧ r = cmpR ka ta kb tb ∧ ka.length < n)
section
variable {P : Params} {cL cR : LxC} {r : Option Int} {n : Nat} {ledL ledR : List (Addr × Obj)} {ka kb : List Nat} {ta tb : Bool}
theorem st_nn (h : r = cmpR ka ta kb tb) (a1 : ka = []) (a2 : ta = false) (b1 : kb = []) (b2 : tb = false) (hL : cL.Led ledL) (hR : cR.Led ledR) : CmpSt P cL cR r n .none .none ledL ledR := by
  subst a1 a2 b1 b2
  exact ⟨_, _, .non, .non, hL, hR, fun _ => h, fun _ q => absurd rfl q⟩
theorem st_nw {k : Nat} {ks : List Nat} {tk : Tok} (h : r = cmpR ka ta kb tb) (a1 : ka = []) (a2 : ta = false) (b1 : kb = k :: ks) (b2 : k < 5) (hL : cL.Led ledL) (hR : cR.At P ks tb ledR) : CmpSt P cL cR r n .none (.str (tx (word k)) tk) ledL ledR := by
  subst a1 a2 b1
  exact ⟨_, _, .non, .word k tk b2, hL, hR.led, fun _ => h, fun q => absurd q.symm (neg1 k)⟩
theorem st_wn {k : Nat} {ks : List Nat} {tk : Tok} (h : r = cmpR ka ta kb tb) (a1 : ka = k :: ks) (a2 : k < 5) (b1 : kb = []) (b2 : tb = false) (hL : cL.At P ks ta ledL) (hR : cR.Led ledR) : CmpSt P cL cR r n (.str (tx (word k)) tk) .none ledL ledR := by
  subst a1 b1 b2
  exact ⟨_, _, .word k tk a2, .non, hL.led, hR, fun _ => h, fun q => absurd q (neg1 k)⟩
theorem st_ww {k j : Nat} {ks js : List Nat} {tk tj : Tok} (h : r = cmpR ka ta kb tb) (a1 : ka = k :: ks) (a2 : k < 5) (b1 : kb = j :: js) (b2 : j < 5) (hL : cL.At P ks ta ledL) (hR : cR.At P js tb ledR) (hn : ka.length ≤ n) : CmpSt P cL cR r n (.str (tx (word k)) tk) (.str (tx (word j)) tj) ledL ledR := by
  subst a1 b1
  have h' : r = if k = j then cmpR ks ta js tb else some (7 * ((k : Int) - j)) := h
  refine ⟨_, _, .word k tk a2, .word j tj b2, hL.led, hR.led, fun q => ?_, fun q _ => ⟨ks, ta, js, tb, hL, hR, ?_, ?_⟩⟩
  · rw [h', if_neg (fun e => q.elim (fun h => h (congrArg _ e)) (neg1 k))]
  · rw [h', if_pos (Int.ofNat.inj q)]
  · exact hn
theorem bad_l (h : r = cmpR ka ta kb tb) (a1 : ka = []) (a2 : ta = true) : r = none := by subst a1 a2; exact h
theorem bad_n (h : r = cmpR ka ta kb tb) (a1 : ka = []) (a2 : ta = false) (b1 : kb = []) (b2 : tb = true) : r = none := by subst a1 a2 b1 b2; exact h
theorem bad_w {k : Nat} {ks : List Nat} (h : r = cmpR ka ta kb tb) (a1 : ka = k :: ks) (b1 : kb = []) (b2 : tb = true) : r = none := by subst a1 b1 b2; exact h
end
theorem m_shape4 {m : Str → Option Value} {x1 x2 x3 x4 : Str} {v1 v2 v3 v4 : Value} (e1 : m x1 = some v1) (e2 : m x2 = some v2) (e3 : m x3 = some v3) (e4 : m x4 = some v4) :
    m = fun y => if y = x1 then some v1 else if y = x2 then some v2 else if y = x3 then some v3 else if y = x4 then some v4 else m y := by
  funext y
  by_cases h1 : y = x1
  · rw [if_pos h1, h1, e1]
  by_cases h2 : y = x2
  · rw [if_neg h1, if_pos h2, h2, e2]
  by_cases h3 : y = x3
  · rw [if_neg h1, if_neg h2, if_pos h3, h3, e3]
  by_cases h4 : y = x4
  · rw [if_neg h1, if_neg h2, if_neg h3, if_pos h4, h4, e4]
  rw [if_neg h1, if_neg h2, if_neg h3, if_neg h4]
theorem cut_step {M : Model} {A : Around} {E : Value → Shared → Prop} {Q : Flow → Shared → Prop} {t : Sem Flow} {s : Shared} (J : Shared → Prop) (h1 : wpAny M A t (fun f s' => f = .next ∧ J s') E s) (h2 : ∀ s', J s' → Q .next s') : wpAny M A t Q E s :=
  wpAny_mono h1 (fun f s' ⟨e, j⟩ => by subst e; exact h2 s' j) fun _ _ x => x
noncomputable abbrev cmM (cL cR : LxC) (va vb : Value) (u : Str → Option Value) : Str → Option Value :=
  fun y => if y = Str.ofString "left" then some (.ref cL.lx) else if y = Str.ofString "right" then some (.ref cR.lx) else if y = Str.ofString "a" then some va else if y = Str.ofString "b" then some vb else u y
noncomputable def CmJ (P : Params) (cL cR : LxC) (r : Option Int) (n : Nat) (m : Str → Option Value) (news : List (Addr × Obj)) : Prop :=
  ∃ va vb ledL ledR u, m = cmM cL cR va vb u ∧ news = ledL ++ ledR ∧ CmpSt P cL cR r n va vb ledL ledR
noncomputable def CmCut (P : Params) (cL cR : LxC) (r : Option Int) (n : Nat) (g : Heap) (L : Addr) (s s' : Shared) : Prop :=
  ∃ h' tk' m' news, s' = { s with heap := h', toks := tk' } ∧ Fr g L h' m' ∧ News g L h' news ∧ CmJ P cL cR r n m' news
noncomputable def CmMid (cL cR : LxC) (r : Option Int) (g : Heap) (L : Addr) (s : Shared) (f : Flow) (s' : Shared) : Prop :=
  f = .next ∧ ∃ h' tk' va vb pa pb news u, s' = { s with heap := h', toks := tk' } ∧ Fr g L h' (cmM cL cR va vb u) ∧ News g L h' news ∧ PlV va pa ∧ PlV vb pb ∧ r = some (7 * (pa - pb))
theorem cm_end {P : Params} {cL cR : LxC} {r : Option Int} {n : Nat} {g h' : Heap} {L D : Addr} {o : Obj} {s : Shared} {m' : Str → Option Value} {ledL ledR : List (Addr × Obj)} {va vb : Value} {tk' : Nat} (F : Fr g L h' m') (N : News g L h' ((D, o) :: (ledL ++ ledR)))
    (e1 : m' (Str.ofString "left") = some (.ref cL.lx)) (e2 : m' (Str.ofString "right") = some (.ref cR.lx)) (e3 : m' (Str.ofString "a") = some va) (e4 : m' (Str.ofString "b") = some vb) (st : CmpSt P cL cR r n va vb ledL ledR) : CmCut P cL cR r n g L s { s with heap := h', toks := tk' } :=
  ⟨h', tk', m', _, rfl, F, fun q hq => N q (.tail _ hq), va, vb, ledL, ledR, m', m_shape4 e1 e2 e3 e4, rfl, st⟩
theorem cm_step {P : Params} {cL cR : LxC} {r : Option Int} {n n' : Nat} {g : Heap} {L : Addr} {s s' : Shared} {Q : Flow → Shared → Prop} (hn : n' < n) (h : CmCut P cL cR r n' g L s s') : WhileStep2 g L s (CmJ P cL cR r) Q n .next s' := by
  obtain ⟨h', tk', m', news, rfl, F, N, j⟩ := h
  exact ⟨h', tk', m', news, n', rfl, F, N, hn, j⟩
section
variable {prog : Program} {w : World} {A : Around} {E : Value → Shared → Prop} {s : Shared} {Q : Value → Shared → Prop} {x y : Str} {t u : Tok}
theorem eq_same (h : Q (.bool true) s) : wpAny (model prog w) A (compareOp .Eq (.str x t) (.str x u)) Q E s := by
  refine PySem.P.eq_str ?_
  rw [show (x.cps.toList == x.cps.toList) = true from beq_self_eq_true _]; exact h
theorem eq_word {i j : Nat} (hi : i < 5) (hj : j < 5) (hij : i ≠ j) (h : Q (.bool false) s) : wpAny (model prog w) A (compareOp .Eq (.str (tx (word i)) t) (.str (tx (word j)) u)) Q E s := by
  refine PySem.P.eq_str ?_
  have : ((tx (word i)).cps.toList == (tx (word j)).cps.toList) = false := by
    cases q : ((tx (word i)).cps.toList == (tx (word j)).cps.toList) with
    | false => rfl
    | true => exact absurd (word_inj i hi j hj (by simpa using q)) hij
  rw [this]; exact h
end
theorem cut_cm {M : Model} {A : Around} {E : Value → Shared → Prop} {Q : Flow → Shared → Prop} {t : Sem Flow} {s : Shared} {g h : Heap} {L : Addr} {m : Str → Option Value} (P : Params) (cL cR : LxC) (r : Option Int) (n : Nat) (_F : Fr g L h m)
    (h1 : wpAny M A t (fun f s' => f = .next ∧ CmCut P cL cR r n g L s s') E s) (h2 : ∀ h' tk' m' news, Fr g L h' m' → News g L h' news → CmJ P cL cR r n m' news → Q .next { s with heap := h', toks := tk' }) : wpAny M A t Q E s :=
  cut_step _ h1 fun s' ⟨h', tk', m', news, e, F, N, j⟩ => e ▸ h2 h' tk' m' news F N j
theorem lxr_method {w : World} {A : Around} {E : Value → Shared → Prop} {s : Shared} {g : Heap} {L : Addr} {m : Str → Option Value} {Q : Value × List Value → Shared → Prop} {pl : Sem Bool} {led led' : List (Addr × Obj)} (c : LxC) {ks : List Nat} {torn : Bool}
    (F : Fr g L s.heap m) (X₀ : (pre.heap_1 w.params).In g) (N : News g L s.heap led') (sub : ∀ x ∈ led, x ∈ led') (hat : c.At w.params ks torn led) (h : Q (.ref 683, [.ref c.lx]) s) : wpAny (model PG w) A (getMethod (.ref c.lx) (Str.ofString "get_token") pl) Q E s := by
  obtain ⟨pos, t2, ts, ln, tl, tt, rfl, hl, hr⟩ := hat
  have h1 := (N _ (sub _ (List.mem_of_getElem? (i := 2) rfl))).1
  have h2 := (N _ (sub _ (List.mem_of_getElem? (i := 3) rfl))).1
  exact method_inst (C := 722) F X₀ ⟨h1, rfl, rfl, h2⟩ (by kernel_rfl) (by kernel_rfl) (by kernel_rfl) (by kernel_rfl) h
theorem sub_l {a b : List (Addr × Obj)} : ∀ x ∈ a, x ∈ a ++ b := fun _ h => List.mem_append_left _ h
theorem sub_r {a b : List (Addr × Obj)} : ∀ x ∈ b, x ∈ a ++ b := fun _ h => List.mem_append_right _ h
noncomputable def ApL (c d : LxC) : Prop := ∀ led, c.Led led → ∀ x ∈ led, x.1 ∉ d.as
theorem ap_led {c d : LxC} {led : List (Addr × Obj)} (h : ApL c d) (e : c.Led led) : ∀ x ∈ led, x.1 ∉ d.as := h led e
theorem ap_at {P : Params} {c d : LxC} {ks : List Nat} {b : Bool} {led : List (Addr × Obj)} (h : ApL c d) (e : c.At P ks b led) : ∀ x ∈ led, x.1 ∉ d.as := h led e.led
theorem cm_while {w : World} {A : Around} {E : Value → Shared → Prop} {Q : Flow → Shared → Prop} {s : Shared} {env : Env} {g : Heap} {L : Addr} {test : Expr} {body : List Stmt} {ps : Pos} {m : Str → Option Value} {news : List (Addr × Obj)}
    (P : Params) (cL cR : LxC) (r : Option Int) (n₀ : Nat) (F : Fr g L s.heap m) (N : News g L s.heap news) (hJ : CmJ P cL cR r n₀ m news)
    (turn : ∀ n m₁ news₁ h₁ tk₁, Fr g L h₁ m₁ → News g L h₁ news₁ → CmJ P cL cR r n m₁ news₁ →
      wpAny (model PG w) A (isTrue test env (eval test env)) (fun b s₂ =>
        if b = true then wpAny (model PG w) A (execs body env) (WhileStep2 g L s (CmJ P cL cR r) (CmMid cL cR r g L s) n) E s₂ else CmMid cL cR r g L s .next s₂) E { s with heap := h₁, toks := tk₁ })
    (after : ∀ h' tk' va vb pa pb news u, Fr g L h' (cmM cL cR va vb u) → News g L h' news → PlV va pa → PlV vb pb → r = some (7 * (pa - pb)) → Q .next { s with heap := h', toks := tk' })
    (hE : PassesOwn (model PG w) A env E) :
    wpAny (model PG w) A (exec (.While test body [] ps) env) Q E s :=
  wpAny_mono (While_inv2 _ F N hJ turn hE) (fun f s' h => by
    obtain ⟨rfl, h', tk', va, vb, pa, pb, news, u, rfl, F, N, ha, hb, hr⟩ := h
    exact after h' tk' va vb pa pb news u F N ha hb hr) fun _ _ x => x
theorem cm_loop {w : World} {A : Around} {E : Value → Shared → Prop} {Q : Flow → Shared → Prop} {s : Shared} {env : Env} {g : Heap} {L : Addr} {test : Expr} {body : List Stmt} {ps : Pos} {m : Str → Option Value} {news : List (Addr × Obj)}
    (P : Params) (cL cR : LxC) (r : Option Int) (n₀ : Nat) (F : Fr g L s.heap m) (N : News g L s.heap news) (hJ : CmJ P cL cR r n₀ m news)
    (turn : ∀ n va vb pa pb ledL ledR u h₁ tk₁ (q : Flow → Shared → Prop) (mid : Shared → Prop), (∀ f s', WhileStep2 g L s (CmJ P cL cR r) (CmMid cL cR r g L s) n f s' → q f s') → (∀ s', CmMid cL cR r g L s .next s' → mid s') → PlV va pa → PlV vb pb → cL.Led ledL → cR.Led ledR →
      ((pa ≠ pb ∨ pa = -1) → r = some (7 * (pa - pb))) → (pa = pb → pa ≠ -1 → ∃ ka ta kb tb, cL.At P ka ta ledL ∧ cR.At P kb tb ledR ∧ r = cmpR ka ta kb tb ∧ ka.length < n) → Fr g L h₁ (cmM cL cR va vb u) → News g L h₁ (ledL ++ ledR) →
      wpAny (model PG w) A (isTrue test env (eval test env)) (fun b s₂ => if b = true then wpAny (model PG w) A (execs body env) q E s₂ else mid s₂) E { s with heap := h₁, toks := tk₁ })
    (after : ∀ h' tk' va vb pa pb news u, Fr g L h' (cmM cL cR va vb u) → News g L h' news → PlV va pa → PlV vb pb → r = some (7 * (pa - pb)) → Q .next { s with heap := h', toks := tk' })
    (hE : PassesOwn (model PG w) A env E) :
    wpAny (model PG w) A (exec (.While test body [] ps) env) Q E s :=
  cm_while P cL cR r n₀ F N hJ (fun n m₁ news₁ h₁ tk₁ F' N' J => by
    obtain ⟨va, vb, ledL, ledR, u, rfl, rfl, pa, pb, ha, hb, hlL, hlR, hdone, hgo⟩ := J
    exact turn n va vb pa pb ledL ledR u h₁ tk₁ _ _ (fun _ _ h => h) (fun _ h => h) ha hb hlL hlR hdone hgo F' N') after hE
theorem cm_mid {cL cR : LxC} {r : Option Int} {g h' : Heap} {L : Addr} {s : Shared} {va vb : Value} {pa pb : Int} {news : List (Addr × Obj)} {u : Str → Option Value} {tk' : Nat} (F : Fr g L h' (cmM cL cR va vb u)) (N : News g L h' news) (ha : PlV va pa) (hb : PlV vb pb) (hr : r = some (7 * (pa - pb))) :
    CmMid cL cR r g L s .next { s with heap := h', toks := tk' } := ⟨rfl, h', tk', va, vb, pa, pb, news, u, rfl, F, N, ha, hb, hr⟩
end
section
theorem fill_Cm : PySem.Challenge.rw_ij0136_01 = PySem.Challenge.rw_ij0136_01 ∧ pre.heap_1 = pre.heap_1 := by
  k_with_none
  k_with "my rel" => (repeat' (first | (k_unfold; (try dsimp only)) | walk1 | walk_at "my next" | (dsimp only; walk1) | (leave1; try dsimp only) | fail "no step"))
  k_with "my room" => (((try simp only [depth_mark, depth_under_make, depth_under_kw, depth_in1, depth_deeper, depth_caller]); (try dsimp only [ar]); omega))
  k_with "my units" => ((have hcL9 := cLine_is; (try simp only [units_in1, units_deeper, Around.mark_units, units_caller]); (try dsimp only [ar]); omega))
  k_with "my unf" => ((refine' enter ?k1 ?k2 ?k3 ?k4 ?k6 ?k7 ?k8 ?k9 ?kB ?_ ?c2 ?c3 ?c4 ?c5; (case k1 => assumption); (case k2 => assumption); (case k3 => assumption); (case k4 => assumption); (case k6 => k_is); (case k7 => k_is); (case k8 => k_room); (case k9 => first | exact BindsTo.of_eq rfl | exact binds_K (Frag.In.keeps (by assumption) (Below.stays (by assumption))) rfl (by k_is) rfl rfl rfl); (case c5 => decide); (case kB => exact locs rfl); (case c2 => exact rfl); (case c3 => exact rfl); (case c4 => exact rfl); k_whole; intro g' L' h' G' F' N' B' X' T'; (try simp only [List.map_cons, List.map_nil] at G'); (try dsimp only); (try k_fold)))
  k_with "subscriptTail Attribute Name Slice str ref" => (((with_reducible rename Fr _ _ _ _ => F'); (with_reducible rename News _ _ _ _ => N'); (refine slice_strN_ss (hsz := ?hsz) (s := ⟨_, _, _, _, _⟩) F' N' ?_); (case hsz => (rw [sizeLine_eq]; omega)); intro h' t' tk' F' N'; (try k_sweep)))
  k_with "subscriptTail BinOp Subscript Add Constant Slice str ref" => (((with_reducible rename Fr _ _ _ _ => F'); (with_reducible rename News _ _ _ _ => N'); (refine slice_strN_ns (hsz := ?hsz) (s := ⟨_, _, _, _, _⟩) F' N' ?_); (case hsz => exact size_sl (by with_reducible assumption)); intro h' t' tk' F' N'; (try k_sweep)))
  k_with "call builtin:str.find" => (refine find4 ?_)
  k_with "my apart" => (repeat' (first | (refine List.forall_mem_cons.2 ⟨⟨?_, ?_⟩, ?_⟩) | exact List.forall_mem_nil _ | with_reducible assumption | (apply Ne.symm; with_reducible assumption)))
  k_with "binaryOp Add str str" => (((refine add_str (hsz := size_slc (by with_reducible assumption)) ?_); intro _ _))
  k_with "execs cons" => (((try dsimp only); first | (with_reducible refine nx_last ?_) | ((with_reducible refine nx_cons ?_); intro q' nx')))
  k_with "execs nil" => (with_reducible refine wpAny_execs_nil ?_)
  k_with "my next" => (with_reducible first | refine trq_b ?_ | refine ifq_t ?_ | refine ifq_f ?_ | refine ifq ?_ | refine trq ?_ | refine nx_next (by assumption) ?_ | refine nx_ret (by assumption) ?_ | refine nx_brk (by assumption) ?_ | refine nx_cont (by assumption) ?_)
  k_with "eval Constant int" => (((with_reducible refine int_T ?_); intro t' tk'))
  k_with "eval Constant str" => (((with_reducible refine str_T ?_); intro t' tk'))
  k_with "my nth" => (with_reducible first | exact nth_0 | exact nth_1 | exact nth_2 | exact nth_3 | exact nth_4 | exact nth_5 | exact nth_6)
  k_with "my ne" => (first | with_reducible assumption | exact Ne.symm (by with_reducible assumption) | k_ne)
  k_with "my allne" => (first | with_reducible exact all_nil | (refine' all_cons ?a ?b; (case a => walk_at "my ne"); (case b => walk_at "my allne")))
  k_with "my upd" => (first | (refine' upd_head ?a; (case a => walk_at "my allne")) | (refine' upd_tail ?a ?b; (case a => walk_at "my ne"); (case b => walk_at "my upd")))
  k_with "eval Name" => ((k_here; (with_reducible first | show wpAny _ _ (PySem.eval _ (envOf _ _ _ _ _)) _ _ _ | show wpAny _ _ (PySem.eval _ (envX _ _ _ _ _ _)) _ _ _); k_dflt (refine' name_T ?F ?v ?o ?_; (case F => k_asm); (case o => exact rfl); (case v => rfl); k_whole)))
  k_with "eval Attribute Name" => ((k_here; (with_reducible first | show wpAny _ _ (PySem.eval _ (envOf _ _ _ _ _)) _ _ _ | show wpAny _ _ (PySem.eval _ (envX _ _ _ _ _ _)) _ _ _); k_dflt (refine' own_T ?F ?x ?lo ?X ?N ?h1 ?h2 ?ok ?ho ?hl ?hv ?_; (case F => k_asm); (case lo => exact rfl); (case x => exact rfl); (case X => k_asm); (case N => k_asm); (case h1 => walk_at "my nth"); (case h2 => walk_at "my nth"); (case ok => (intro P9; kernel_rfl)); (case ho => first | exact rfl | walk_at "my isD"); (case hl => first | k_get | walk_at "my getl"); (case hv => first | exact rfl | k_handed); k_whole); intro tk'))
  k_with "getAttr ref" => ((k_here; k_dflt (refine' get_T ?F ?X ?N ?h1 ?h2 ?ok ?ho ?hl ?hv ?_; (case F => k_asm); (case X => k_asm); (case N => k_asm); (case h1 => walk_at "my nth"); (case h2 => walk_at "my nth"); (case ok => (intro P9; kernel_rfl)); (case ho => first | exact rfl | walk_at "my isD"); (case hl => first | k_get | walk_at "my getl"); (case hv => first | exact rfl | k_handed); k_whole); intro tk'))
  k_with "storeName" => ((k_here; (with_reducible first | show wpAny _ _ (PySem.storeName (envOf _ _ _ _ _)  _ _) _ _ _ | show wpAny _ _ (PySem.storeName (envX _ _ _ _ _ _)  _ _) _ _ _); k_dflt (refine' store_T ?F ?N ?o ?_; (case F => k_asm); (case N => k_asm); (case o => exact rfl); k_whole); intro h' tk' F' N'; (try k_sweep)))
  k_with "setAttr ref" => ((k_here; k_dflt (refine' set_T ?F ?X ?N ?h1 ?h2 ?ok ?e ?U ?_; (case F => k_asm); (case X => k_asm); (case N => k_asm); (case h1 => walk_at "my nth"); (case h2 => walk_at "my nth"); (case ok => (intro P9; kernel_rfl)); (case e => walk_at "my puts"); (case U => walk_at "my upd"); k_whole); intro h' tk' F' N'; (try k_sweep)))
  k_with "ite" => (first | with_reducible refine ite_tt ?_ | with_reducible refine ite_ff ?_)
  k_with "my ofb" => (with_reducible first | exact Nat.ne_of_beq_eq_false rfl | exact off1 | exact ffo1 | exact off2 | exact ffo2 | exact off3 | exact ffo3 | exact off4 | exact ffo4 | exact off5 | exact ffo5 | exact off6 | exact ffo6)
  k_with "my off" => (with_reducible first | walk_at "my ofb" | (refine strip ?_; first | walk_at "my ofb" | (refine strip ?_; first | walk_at "my ofb" | (refine strip ?_; first | walk_at "my ofb" | (refine strip ?_; first | walk_at "my ofb" | (refine strip ?_; walk_at "my ofb"))))))
  k_with "my omega" => (with_reducible first | (show _ < _; first | exact room (by assumption) rfl | exact room0 (by assumption) | exact room2 (by assumption) rfl | exact room3 (by assumption) rfl | exact room4 (by assumption) rfl | exact room5 (by assumption) rfl | exact lt_ble rfl | exact om_i63' (by assumption) rfl | exact om_i63 (by assumption) rfl | exact Nat.succ_lt_succ (by assumption) | exact Nat.lt_of_succ_lt_succ (by assumption) | exact Int.ofNat_lt.2 (by assumption) | exact Int.ofNat_lt.1 (by assumption)) | (show _ ≤ _; first | exact Nat.le_of_ble_eq_true rfl | exact Nat.le_refl _ | exact Nat.le_succ _ | exact Nat.le_add_right _ _ | exact om_ltle (by assumption) rfl | exact om_le (by assumption) rfl | exact Nat.le_of_lt (by assumption) | exact Int.ofNat_le.2 (by assumption) | exact Int.natCast_nonneg _ | exact Int.ofNat_le.1 (by assumption) | exact om_addl rfl) | (show _ ≠ _; first | walk_at "my off" | exact om_nne (by assumption)) | (show _ = _; first | exact om_nn (by assumption)) | (show False; first | exact no3 (by assumption) | exact no4 (by assumption) | exact no5 (by assumption) | exact no6 (by assumption)) | fail "no")
  k_with "my cmp" => (((case F => k_asm); (case o => exact rfl); (case v => rfl)))
  k_with "isTrue Compare" => (first | (k_here; (with_reducible first | show wpAny _ _ (isTrue _ (envOf _ _ _ _ _) _) _ _ _ | show wpAny _ _ (isTrue _ (envX _ _ _ _ _ _) _) _ _ _); first | ((with_reducible show wpAny _ _ (isTrue (.Compare (.Name _ _) [_] [.Constant (.str _) _ _] _) _ _) _ _ _); k_dflt (refine' cmp_s ?F ?v ?o ?_ ?m; walk_at "my cmp"; (case m => with_unfolding_all rfl); k_whole; intro t' tk')) | ((with_reducible show wpAny _ _ (isTrue (.Compare (.Name _ _) [_] [.Constant (.int _) _ _] _) _ _) _ _ _); k_dflt (refine' cmp_i ?F ?v ?o ?_ ?m; walk_at "my cmp"; (case m => with_unfolding_all rfl); k_whole; intro t' tk')) | ((with_reducible show wpAny _ _ (isTrue (.Compare (.Name _ _) [_] [.Constant .none _ _] _) _ _) _ _ _); k_dflt (refine' cmp_n ?F ?v ?o ?_ ?m; walk_at "my cmp"; (case m => with_unfolding_all rfl); k_whole)) | ((with_reducible show wpAny _ _ (isTrue (.Compare (.Name _ _) [_] [.Name _ _] _) _ _) _ _ _); k_dflt (refine' cmp_nn ?F ?v ?o ?u ?p ?_ ?m; walk_at "my cmp"; (case p => exact rfl); (case u => rfl); (case m => with_unfolding_all rfl); k_whole))) | with_reducible refine cmp_1 ?_)
  k_with "exec If" => (with_reducible refine if_T ?_)
  k_with "my puts" => (first | with_reducible exact lex_state | with_reducible exact lex_token | with_reducible exact lex_line | with_reducible exact sio_pos)
  k_with "ite" => (first | with_reducible refine ite_tt ?_ | with_reducible refine ite_ff ?_)
  k_with "call ref" => (((with_reducible show wpAny _ _ (call (Value.ref 766) _) _ _ _); (try dsimp only [List.cons_append, List.nil_append]); (with_reducible rename Fr _ _ _ _ => F'); (with_reducible rename News _ _ _ _ => N'); (refine' k_lex ?B F' N' ?X ?T rfl rfl ?r ?l ?dp ?un ?_; (case B => with_reducible assumption); (case X => with_reducible assumption); (case T => with_reducible assumption); (case r => with_reducible assumption); (case l => with_reducible assumption); (case dp => omega); (case un => omega)); intro c' led' h' tk' hok' hat' hap' F' N'))
  k_with "call ref" => (((with_reducible show wpAny _ _ (call (Value.ref 683) _) _ _ _); (try dsimp only [List.cons_append, List.nil_append]); (with_reducible rename Fr _ _ _ _ => F'); (with_reducible rename News _ _ _ _ => N'); (first | (refine' k_get _ ?B F' N' ?X ?T rfl rfl ?ok ?hat ?ap ?dp ?un ?_ ?_ ?_; (case ap => first | exact ap_at (by with_reducible assumption) (by with_reducible assumption) | exact ap_led (by with_reducible assumption) (by with_reducible assumption))) | (refine' k_getR _ ?B F' N' ?X ?T rfl rfl ?ok ?hat ?ap ?dp ?un ?_ ?_ ?_; (case ap => first | exact ap_at (by with_reducible assumption) (by with_reducible assumption) | exact ap_led (by with_reducible assumption) (by with_reducible assumption)))); (case B => with_reducible assumption); (case X => with_reducible assumption); (case T => with_reducible assumption); (case ok => with_reducible assumption); (case hat => with_reducible assumption); (case dp => omega); (case un => omega); all_goals (first | intro k' ks' e1' e2' tok' h' tk' led' hl' F' N' | intro e1' e2' h' tk' e' h₂ F' R' U' | intro e1' e2' h' tk' led' hl' F' N')))
  k_with "call ref" => (((with_reducible show wpAny _ _ (call (Value.ref 759) _) _ _ _); (try dsimp only [List.cons_append, List.nil_append]); (with_reducible rename Fr _ _ _ _ => F'); (with_reducible rename News _ _ _ _ => N'); (refine' k_place ?B F' N' ?X ?T rfl rfl ?r ?dp ?un ?_; (case B => with_reducible assumption); (case X => with_reducible assumption); (case T => with_reducible assumption); (case r => with_reducible assumption); (case dp => omega); (case un => omega)); intro t' h' tk' F' N'))
  k_with "compareOp Is str none" => (with_reducible refine is_str_none ?_)
  k_with "compareOp IsNot str none" => (with_reducible refine isnot_str_none ?_)
  k_with "compareOp Eq str str" => (first | with_reducible refine eq_same ?_ | with_reducible refine eq_word (by with_reducible assumption) (by with_reducible assumption) (by with_reducible assumption) ?_)
  k_with "getMethod ref" => (((with_reducible rename Fr _ _ _ _ => F'); (with_reducible rename News _ _ _ _ => N'); (first | (refine' lxr_method _ F' ?X N' sub_l ?hat ?_; (case X => with_reducible assumption); (case hat => with_reducible assumption)) | (refine' lxr_method _ F' ?X N' sub_r ?hat ?_; (case X => with_reducible assumption); (case hat => with_reducible assumption)))))
  k_fill
  exact ⟨rfl, rfl⟩
theorem lines_Cm_0 : True := by
  k_with "exec While" => (refine stop_here ?_)
  k_with "exec Assign" => (((with_reducible show wpAny _ _ (exec (Stmt.Assign [Expr.Tuple _ _ _] (Expr.Tuple [Expr.Call (Expr.Attribute _ _ _) _ _ _, _] _ _) _) _) _ _ _); (have hmk9 : Mark := by with_reducible assumption); refine stop_here ?_))
  trivial
theorem c_cmp {base : Heap} {s : Shared} {R : Result → Shared → Prop}
    {la lb ka kb : List Nat} {na nb : Bool} {ta tb : Tok} {r : Option Int} (hr : r = cmpR ka na kb nb)
    (B : Below (ar dp un gd outs) base outs s.heap) (X : (pre.heap_1 w.params).In base) (TT : Top p loose mean mg mb base)
    (V : Free base outs s.heap []) (hdp : dp + 20 < recursionLimit) (hu : un + 130 < cLine) (hla : la.length < 400000) (hlb : lb.length < 400000) (ha : Reads la ka na) (hb : Reads lb kb nb)
    (ret : ∀ n h' tk' tk2, r = some n → Kept [] s.heap h' → R (.ok (.ret (.int n tk2))) { s with heap := h', toks := tk' })
    (bad : r = none → ∀ h' tk' e, Refused base outs s.heap [] e h' → R (.error (.ref e)) { s with heap := h', toks := tk' }) :
    codeAny (model PG w) (ar dp un gd outs) (.call (.ref 773) ⟨[.str (tx la) ta, .str (tx lb) tb], []⟩) R s := by
  have hmk : Mark := trivial
  k_dflt ktr_unf
  ktr_rel
  unfold Stop
  with_reducible rename Fr _ _ _ _ => F'
  with_reducible rename News _ _ _ _ => N'
  have c' := trivial; have led' := trivial; have h' := trivial; have tk' := trivial; have hok' := trivial; have hat' := trivial; have hap' := trivial; have q' := trivial; have nx' := trivial; have hmk9 := trivial
  rename_i c1 led1 h1 tk1 ok1 at1 ap1 c2 led2 h2 tk2 ok2 at2 ap2 D h3 l1 h4 h5 tk5 h6 tk6 qz nxz mk9
  replace N' : News _ _ _ (led1 ++ led2) := fun q hq => N' q (by rcases List.mem_append.mp hq with h | h <;> simp [h])
  have a1 := at1.led
  have a2 := at2.led
  have ap2' : ApL c1 c2 := fun led e x hx hm => by
    have e1 : x.1 ∈ led1.map (·.1) := by rw [a1, ← e]; exact List.mem_map_of_mem hx
    obtain ⟨y, hy, e2⟩ := List.mem_map.mp e1
    exact ap2 y (List.mem_append_left _ hy) (e2 ▸ hm)
  have ap1' : ApL c2 c1 := fun led e x hx hm => by
    have e1 : x.1 ∈ c2.as := by rw [← e]; exact List.mem_map_of_mem hx
    rw [← a1] at hm
    obtain ⟨y, hy, e2⟩ := List.mem_map.mp hm
    exact ap2 y (List.mem_append_left _ hy) (e2 ▸ e1)
  clear ap1 ap2 l1
  refine cut_cm w.params c1 c2 r ka.length F' ?_ ?_
  · clear hmk mk9
    ktr_rel
    all_goals (repeat' (first | k_unfold | dsimp only))
    all_goals (with_reducible rename Kept _ _ _ => K')
    all_goals (first
      | exact bad (bad_l hr (by with_reducible assumption) (by with_reducible assumption)) _ _ _ (refused_of K' (by with_reducible assumption) (by with_reducible assumption))
      | exact bad (bad_n hr (by with_reducible assumption) (by with_reducible assumption) (by with_reducible assumption) (by with_reducible assumption)) _ _ _ (refused_of K' (by with_reducible assumption) (by with_reducible assumption))
      | exact bad (bad_w hr (by with_reducible assumption) (by with_reducible assumption) (by with_reducible assumption)) _ _ _ (refused_of K' (by with_reducible assumption) (by with_reducible assumption))
      | skip)
    all_goals (with_reducible rename Fr _ _ _ _ => F'; with_reducible rename News _ _ _ _ => N')
    all_goals (first
      | exact cm_end F' N' rfl rfl rfl rfl (st_nn hr (by with_reducible assumption) (by with_reducible assumption) (by with_reducible assumption) (by with_reducible assumption) (by with_reducible assumption) (by with_reducible assumption))
      | exact cm_end F' N' rfl rfl rfl rfl (st_nw hr (by with_reducible assumption) (by with_reducible assumption) (by with_reducible assumption) (by with_reducible assumption) (by with_reducible assumption) (by with_reducible assumption))
      | exact cm_end F' N' rfl rfl rfl rfl (st_wn hr (by with_reducible assumption) (by with_reducible assumption) (by with_reducible assumption) (by with_reducible assumption) (by with_reducible assumption) (by with_reducible assumption))
      | exact cm_end F' N' rfl rfl rfl rfl (st_ww hr (by with_reducible assumption) (by with_reducible assumption) (by with_reducible assumption) (by with_reducible assumption) (by with_reducible assumption) (by with_reducible assumption) (Nat.le_refl _)))
  intro h' tk' m' news F' N' hJ
  dsimp only
  ktr_rel
  unfold Stop
  clear hmk mk9 hr
  refine cm_loop w.params c1 c2 r ka.length F' N' hJ ?turn ?after ?own
  case own => first | passes_own | with_unfolding_all passes_own
  case after =>
    intro h' tk' va vb pa pb news u F' N' ha hb hr
    dsimp only
    ktr_rel
    all_goals (repeat' (first | k_unfold | dsimp only))
    with_reducible rename Fr _ _ _ _ => F'
    with_reducible rename Kept _ _ _ => K'
    exact ret _ _ _ _ hr (kept_of K' F')
  case turn =>
  intro n va vb pa pb ledL ledR u h₁ tk₁ Q' mid hq hmid ha hb hlL hlR hdone hgo F' N'
  cases ha with
  | non =>
    cases hb with
    | non =>
      have hd := hdone (.inr rfl)
      clear hdone hgo
      ktr_rel
      all_goals (try dsimp only)
      with_reducible rename Fr _ _ _ _ => F'
      with_reducible rename News _ _ _ _ => N'
      exact hmid _ (cm_mid F' N' .non .non hd)
    | word j tj hj =>
      have hd := hdone (.inr rfl)
      clear hdone hgo
      ktr_rel
      all_goals (try dsimp only)
      with_reducible rename Fr _ _ _ _ => F'
      with_reducible rename News _ _ _ _ => N'
      exact hmid _ (cm_mid F' N' .non (.word j tj hj) hd)
  | word i ti hi =>
    cases hb with
    | non =>
      have hd := hdone (.inl (by first | exact neg1 _ | exact fun e => neg1 _ e.symm | exact fun e => hij (Int.ofNat.inj e)))
      clear hdone hgo
      ktr_rel
      all_goals (try dsimp only)
      with_reducible rename Fr _ _ _ _ => F'
      with_reducible rename News _ _ _ _ => N'
      exact hmid _ (cm_mid F' N' (.word i ti hi) .non hd)
    | word j tj hj =>
      by_cases hij : i = j
      · subst hij
        obtain ⟨ka', na', kb', nb', at1', at2', hr', hn⟩ := hgo rfl (neg1 _)
        clear hdone hgo
        ktr_rel
        all_goals (repeat' (first | k_unfold | dsimp only))
        all_goals (with_reducible rename Kept _ _ _ => K')
        all_goals (first
          | exact bad (bad_l hr' (by with_reducible assumption) (by with_reducible assumption)) _ _ _ (refused_of K' (by with_reducible assumption) (by with_reducible assumption))
          | exact bad (bad_n hr' (by with_reducible assumption) (by with_reducible assumption) (by with_reducible assumption) (by with_reducible assumption)) _ _ _ (refused_of K' (by with_reducible assumption) (by with_reducible assumption))
          | exact bad (bad_w hr' (by with_reducible assumption) (by with_reducible assumption) (by with_reducible assumption)) _ _ _ (refused_of K' (by with_reducible assumption) (by with_reducible assumption))
          | skip)
        all_goals (with_reducible rename Fr _ _ _ _ => F'; with_reducible rename News _ _ _ _ => N')
        all_goals (first
          | exact hq _ _ (cm_step hn (cm_end F' N' rfl rfl rfl rfl (st_nn hr' (by with_reducible assumption) (by with_reducible assumption) (by with_reducible assumption) (by with_reducible assumption) (by with_reducible assumption) (by with_reducible assumption))))
          | exact hq _ _ (cm_step hn (cm_end F' N' rfl rfl rfl rfl (st_nw hr' (by with_reducible assumption) (by with_reducible assumption) (by with_reducible assumption) (by with_reducible assumption) (by with_reducible assumption) (by with_reducible assumption))))
          | exact hq _ _ (cm_step hn (cm_end F' N' rfl rfl rfl rfl (st_wn hr' (by with_reducible assumption) (by with_reducible assumption) (by with_reducible assumption) (by with_reducible assumption) (by with_reducible assumption) (by with_reducible assumption))))
          | exact hq _ _ (cm_step hn (cm_end F' N' rfl rfl rfl rfl (st_ww hr' (by with_reducible assumption) (by with_reducible assumption) (by with_reducible assumption) (by with_reducible assumption) (by with_reducible assumption) (by with_reducible assumption) (Nat.le_refl _)))))
      · have hd := hdone (.inl (by first | exact neg1 _ | exact fun e => neg1 _ e.symm | exact fun e => hij (Int.ofNat.inj e)))
        clear hdone hgo
        ktr_rel
        all_goals (try dsimp only)
        with_reducible rename Fr _ _ _ _ => F'
        with_reducible rename News _ _ _ _ => N'
        exact hmid _ (cm_mid F' N' (.word i ti hi) (.word j tj hj) hd)
end
section
open PySem.W.X PySem.Builtin
set_option autoImplicit false
theorem enterX {w : World} {s : Shared} {base : Heap} {outs : List Env} {K : Frag} {p : Program} {loose : List Str} {mean : ExcName → Option Value} {mg mb : Str → Option Value} {dp un : Nat} {gd : Option (List Code)}
    {R : Result → Shared → Prop} {name qual : Str} {params : Arguments} {body : List Stmt} {scope : Scope} {cl : List (Str × Addr)} {dV kV doc pm cdv ct oc : Value} {an od : Option Addr} {osl : Array (Option Value)} {f : Addr} {args : Args} {binds : List (Str × Value)}
    (B : Below (ar dp un gd outs) base outs s.heap) (X : K.In base) (T : Top p loose mean mg mb base)
    (ho : K.lookup f = some ⟨oc, od, .func (fnX name qual params body scope cl dV kV doc pm an cdv ct), osl⟩) (hcd : s.heap.CodeRec cdv qual) (hroom : dp < recursionLimit)
    (hbind : BindsTo s (fnX name qual params body scope cl dV kV doc pm an cdv ct) args binds) (hloc : ∀ y ∈ binds, scope.names.lookup y.1 = some .local)
    (h : ∀ g L' h₁, Kept [] s.heap g → Fr g L' h₁ (fun y => binds.reverse.lookup y) → Below (ar dp un gd outs) base outs g → base.StaysIn g →
      wpAny (model PG w) ((ar dp un gd outs).deeper (envX qual scope L' f cdv cl)) (execs body (envX qual scope L' f cdv cl))
        (fun fl s' => EndR R (match fl with | .ret v => v | _ => .none) s')
        (fun e s' => wpAny (model PG w) ((ar dp un gd outs).deeper (envX qual scope L' f cdv cl)) (leaving (envX qual scope L' f cdv cl) e) (fun _ s'' => R (.error e) s'') (fun e' s'' => R (.error e') s'') s')
        { s with heap := h₁, toks := s.toks + binds.length })
    (hco : scope.isCoroutine = false) (hgen : scope.isGenerator = false) (hk : scope.kind = .function)
    (hcell : ∀ x ∈ scope.names, x.2 ≠ .cell) : codeAny (model PG w) (ar dp un gd outs) (.call (.ref f) args) R s := by
  have XS := X.keeps B.stays
  refine codeAny_call_def (fd := fnX name qual params body scope cl dV kV doc pm an cdv ct) (body := body) (binds := binds) hroom (XS _ _ ho) rfl (T.nolimit.keeps B.stays) hcd rfl hbind hcell hloc (fun h₁ hns hk₁ => ?_) hco hgen hk
  exact h s.heap s.heap.objs.size h₁ (fun b o e n => e) ⟨hns, fun b o e => hk₁ b o e, Nat.le_refl _⟩ B B.stays
theorem k_cmp {base g : Heap} {L : Addr} {m : Str → Option Value} {env : Env} {s : Shared} {Q : Value → Shared → Prop} {E : Value → Shared → Prop} {rest : List (Addr × Obj)}
    {la lb ka kb : List Nat} {na nb : Bool} {ta tb : Tok} {r : Option Int} (hr : r = cmpR ka na kb nb) (hla : la.length < 400000) (hlb : lb.length < 400000) (ha : Reads la ka na) (hb : Reads lb kb nb)
    (B : Below (ar dp un gd outs) base outs g) (F : Fr g L s.heap m) (N : News g L s.heap rest) (X : (pre.heap_1 w.params).In base) (TT : Top p loose mean mg mb base)
    (hf : env.frame = some L) (hk : env.scope.kind = .function) (hdp : dp + 22 < recursionLimit) (hu : un + 135 < cLine)
    (q : ∀ n tk h' tk', r = some n → Fr g L h' m → News g L h' rest → Q (.int n tk) { s with heap := h', toks := tk' })
    (bad : r = none → ∀ h' tk' e h₂, Fr g L h₂ m → RaisedN base (env :: outs) e (.type "ValueError") rest h' → h₂.UpToSlots h' → E (.ref e) { s with heap := h', toks := tk' }) :
    wpAny (model PG w) ((ar dp un gd outs).deeper env) (call (.ref 773) [.str (tx la) ta, .str (tx lb) tb]) Q E s := by
  have V := free_of B F N hf (pre := []) fun _ h => nomatch h
  have BX := pushX B F hf hk
  have W1 := base_widest BX V
  have W2 := below_widest (as := []) BX
  have W3 := free_widest (base := base) V
  simp only [List.map_nil] at W1 W3
  refine call_by fun R ok er => c_cmp (dp := dp + 1) (un := un + 3) (outs := env :: outs) hr W2 (X.keeps W1) (TT.keeps W1) W3 (by omega) (by omega) hla hlb ha hb ?_ ?_
  · intro n h' tk' tk2 e kk
    exact ok _ _ (q n tk2 h' tk' e (back0 F N kk).1 (back0 F N kk).2)
  · intro e1 h' tk' e r
    have := refused_back (pre := []) (rest := rest) (e := e) (h' := h') B F N hf (fun _ _ => List.not_mem_nil)
    obtain ⟨h₂, F₂, R₂, U₂⟩ := this r
    exact er _ _ (bad e1 h' tk' e h₂ F₂ R₂ U₂)
noncomputable def KIn (K : Frag) (h : Heap) : Prop := K.In h
theorem k_slotget {w : World} {A : Around} {E : Value → Shared → Prop} {s : Shared} {g : Heap} {L : Addr} {m : Str → Option Value} {Q : Value → Shared → Prop} {vn v u : Value} {ex : Bool}
    {K : Frag} {a nd md c bt sl stt x dx : Addr} {f c' : Nat → Addr} {doc ctv : Nat → Value} {k vv : Nat → Tok} {tm to td t0 tq : Tok} (Y : KK w.params vn v K a nd md c bt sl stt f c' doc ctv k vv tm to td t0 tq) (F : Fr g L s.heap m) (XK : KIn K g)
    (hx : g.get? x = some (kInst a dx u)) (hdx : g.get? dx = some emptyDict) (hh : handedIn u = true) (h : Q u { s with toks := s.toks + 1 }) : wpAny (model PG w) A (getAttr (.ref x) (Str.ofString "obj") ex) Q E s := by
  have I : InstAt s.heap x (kInst a dx u) a (some emptyDict) := ⟨F.keep _ _ hx, rfl, rfl, F.keep _ _ hdx⟩
  refine get_slot (C := a) (p := md) (i := 0) F XK I ?g ?c (k_obj Y) ?n ?t (k_slot Y) rfl hh h
  case g =>
    unfold plainGet
    rw [find0_of Y.hA rfl rfl Y.hN (n := Str.ofString "__getattribute__") (r := some (.builtin "object.__getattribute__")) (by kernel_rfl) (by kernel_rfl) (by kernel_rfl)]
    rw [find0_of Y.hA rfl rfl Y.hN (n := Str.ofString "__getattr__") (r := none) (by kernel_rfl) (by kernel_rfl) (by kernel_rfl)]
    kernel_rfl
  case c =>
    unfold isClsIn clsIn
    rw [Y.hA]
    rfl
  case n =>
    unfold specialIn
    rw [k_tmd Y]
    kernel_rfl
  case t =>
    unfold takesIn specialIn
    rw [k_tmd Y]
    kernel_rfl
theorem nameX_KIn {M : Model} {A : Around} {E : Value → Shared → Prop} {s : Shared} {K : Frag} {h₀ : Heap} {L a : Addr} {m : Str → Option Value} {cn : Str} {cs : Scope} {ccd : Value} {cl : List (Str × Addr)} {x : Str} {pos : Pos} {v : Value} {Q : Value → Shared → Prop} {c : Addr}
  {oc : Value} {od : Option Addr} {sl : Array (Option Value)} (F : Fr h₀ L s.heap m) (X : KIn K h₀) (hc : cl.lookup x = some c) (hv : K.lookup c = some ⟨oc, od, .cell (some v), sl⟩) (h : Q v s)
    (hk : cs.kind = .function := by rfl) (hx : (envX cn cs L a ccd cl).kindOf x = some .free := by rfl) (hb : (x == ("__debug__" : Str)) = false := by decide) (hn : (x == ("__classdict__" : Str)) = false := by decide) :
    wpAny M A (eval (.Name x pos) (envX cn cs L a ccd cl)) Q E s := nameX_FK F X hc hv h hk hx hb hn
theorem leave_onX {M : Model} {A : Around} {E : Value → Shared → Prop} {s' : Shared} {base g g₂ : Heap} {outer : List Env} {L a e : Addr} {m : Str → Option Value} {name : Str} {scope : Scope} {cd : Value} {cl : List (Str × Addr)} {Q : Unit → Shared → Prop} {news : List (Addr × Obj)} {cls : Value}
    (K : Below A base outer g) (F : Fr g L g₂ m) (R : RaisedN base (envX name scope L a cd cl :: outer) e cls news s'.heap) (hsm : g₂.UpToSlots s'.heap)
    (hQ : ∀ h', RaisedN base outer e cls news h' → g.UpToSlots h' → Q () { s' with heap := h' }) :
    wpAny M (A.deeper (envX name scope L a cd cl)) (leaving (envX name scope L a cd cl) (.ref e)) Q E s' := by
  obtain ⟨B, a0, hB, hl, hfl⟩ := R
  exact wpAny_leaves_onW (Around.frames_deeper K.stack) rfl hfl fun h' x1 x2 => hQ h' ⟨B, a0, hB, hl, x1⟩ ((Heap.UpToSlots.of_keeps F.keep).trans (hsm.trans x2))
end
section
theorem fill_Kp : PySem.Challenge.rw_ij0136_01 = PySem.Challenge.rw_ij0136_01 ∧ pre.heap_1 = pre.heap_1 := by
  k_with_none
  k_with "my rel" => (repeat' (first | (k_unfold; (try dsimp only)) | walk1 | walk_at "my next" | (dsimp only; walk1) | (leave1; try dsimp only) | fail "no step"))
  k_with "my room" => (((try simp only [depth_mark, depth_under_make, depth_under_kw, depth_in1, depth_deeper, depth_caller]); (try dsimp only [ar]); omega))
  k_with "my units" => ((have hcL9 := cLine_is; (try simp only [units_in1, units_deeper, Around.mark_units, units_caller]); (try dsimp only [ar]); omega))
  k_with "my unf" => ((refine' enter ?k1 ?k2 ?k3 ?k4 ?k6 ?k7 ?k8 ?k9 ?kB ?_ ?c2 ?c3 ?c4 ?c5; (case k1 => assumption); (case k2 => assumption); (case k3 => assumption); (case k4 => assumption); (case k6 => k_is); (case k7 => k_is); (case k8 => k_room); (case k9 => first | exact BindsTo.of_eq rfl | exact binds_K (Frag.In.keeps (by assumption) (Below.stays (by assumption))) rfl (by k_is) rfl rfl rfl); (case c5 => decide); (case kB => exact locs rfl); (case c2 => exact rfl); (case c3 => exact rfl); (case c4 => exact rfl); k_whole; intro g' L' h' G' F' N' B' X' T'; (try simp only [List.map_cons, List.map_nil] at G'); (try dsimp only); (try k_fold)))
  k_with "subscriptTail Attribute Name Slice str ref" => (((with_reducible rename Fr _ _ _ _ => F'); (with_reducible rename News _ _ _ _ => N'); (refine slice_strN_ss (hsz := ?hsz) (s := ⟨_, _, _, _, _⟩) F' N' ?_); (case hsz => (rw [sizeLine_eq]; omega)); intro h' t' tk' F' N'; (try k_sweep)))
  k_with "subscriptTail BinOp Subscript Add Constant Slice str ref" => (((with_reducible rename Fr _ _ _ _ => F'); (with_reducible rename News _ _ _ _ => N'); (refine slice_strN_ns (hsz := ?hsz) (s := ⟨_, _, _, _, _⟩) F' N' ?_); (case hsz => exact size_sl (by with_reducible assumption)); intro h' t' tk' F' N'; (try k_sweep)))
  k_with "call builtin:str.find" => (refine find4 ?_)
  k_with "my apart" => (repeat' (first | (refine List.forall_mem_cons.2 ⟨⟨?_, ?_⟩, ?_⟩) | exact List.forall_mem_nil _ | with_reducible assumption | (apply Ne.symm; with_reducible assumption)))
  k_with "binaryOp Add str str" => (((refine add_str (hsz := size_slc (by with_reducible assumption)) ?_); intro _ _))
  k_with "execs cons" => (((try dsimp only); first | (with_reducible refine nx_last ?_) | ((with_reducible refine nx_cons ?_); intro q' nx')))
  k_with "execs nil" => (with_reducible refine wpAny_execs_nil ?_)
  k_with "my next" => (with_reducible first | refine trq_b ?_ | refine ifq_t ?_ | refine ifq_f ?_ | refine ifq ?_ | refine trq ?_ | refine nx_next (by assumption) ?_ | refine nx_ret (by assumption) ?_ | refine nx_brk (by assumption) ?_ | refine nx_cont (by assumption) ?_)
  k_with "eval Constant int" => (((with_reducible refine int_T ?_); intro t' tk'))
  k_with "eval Constant str" => (((with_reducible refine str_T ?_); intro t' tk'))
  k_with "my nth" => (with_reducible first | exact nth_0 | exact nth_1 | exact nth_2 | exact nth_3 | exact nth_4 | exact nth_5 | exact nth_6)
  k_with "my ne" => (first | with_reducible assumption | exact Ne.symm (by with_reducible assumption) | k_ne)
  k_with "my allne" => (first | with_reducible exact all_nil | (refine' all_cons ?a ?b; (case a => walk_at "my ne"); (case b => walk_at "my allne")))
  k_with "my upd" => (first | (refine' upd_head ?a; (case a => walk_at "my allne")) | (refine' upd_tail ?a ?b; (case a => walk_at "my ne"); (case b => walk_at "my upd")))
  k_with "eval Name" => ((k_here; (with_reducible first | show wpAny _ _ (PySem.eval _ (envOf _ _ _ _ _)) _ _ _ | show wpAny _ _ (PySem.eval _ (envX _ _ _ _ _ _)) _ _ _); k_dflt (refine' name_T ?F ?v ?o ?_; (case F => k_asm); (case o => exact rfl); (case v => rfl); k_whole)))
  k_with "eval Attribute Name" => ((k_here; (with_reducible first | show wpAny _ _ (PySem.eval _ (envOf _ _ _ _ _)) _ _ _ | show wpAny _ _ (PySem.eval _ (envX _ _ _ _ _ _)) _ _ _); k_dflt (refine' own_T ?F ?x ?lo ?X ?N ?h1 ?h2 ?ok ?ho ?hl ?hv ?_; (case F => k_asm); (case lo => exact rfl); (case x => exact rfl); (case X => k_asm); (case N => k_asm); (case h1 => walk_at "my nth"); (case h2 => walk_at "my nth"); (case ok => (intro P9; kernel_rfl)); (case ho => first | exact rfl | walk_at "my isD"); (case hl => first | k_get | walk_at "my getl"); (case hv => first | exact rfl | k_handed); k_whole); intro tk'))
  k_with "getAttr ref" => ((k_here; k_dflt (refine' get_T ?F ?X ?N ?h1 ?h2 ?ok ?ho ?hl ?hv ?_; (case F => k_asm); (case X => k_asm); (case N => k_asm); (case h1 => walk_at "my nth"); (case h2 => walk_at "my nth"); (case ok => (intro P9; kernel_rfl)); (case ho => first | exact rfl | walk_at "my isD"); (case hl => first | k_get | walk_at "my getl"); (case hv => first | exact rfl | k_handed); k_whole); intro tk'))
  k_with "storeName" => ((k_here; (with_reducible first | show wpAny _ _ (PySem.storeName (envOf _ _ _ _ _)  _ _) _ _ _ | show wpAny _ _ (PySem.storeName (envX _ _ _ _ _ _)  _ _) _ _ _); k_dflt (refine' store_T ?F ?N ?o ?_; (case F => k_asm); (case N => k_asm); (case o => exact rfl); k_whole); intro h' tk' F' N'; (try k_sweep)))
  k_with "setAttr ref" => ((k_here; k_dflt (refine' set_T ?F ?X ?N ?h1 ?h2 ?ok ?e ?U ?_; (case F => k_asm); (case X => k_asm); (case N => k_asm); (case h1 => walk_at "my nth"); (case h2 => walk_at "my nth"); (case ok => (intro P9; kernel_rfl)); (case e => walk_at "my puts"); (case U => walk_at "my upd"); k_whole); intro h' tk' F' N'; (try k_sweep)))
  k_with "ite" => (first | with_reducible refine ite_tt ?_ | with_reducible refine ite_ff ?_)
  k_with "my ofb" => (with_reducible first | exact Nat.ne_of_beq_eq_false rfl | exact off1 | exact ffo1 | exact off2 | exact ffo2 | exact off3 | exact ffo3 | exact off4 | exact ffo4 | exact off5 | exact ffo5 | exact off6 | exact ffo6)
  k_with "my off" => (with_reducible first | walk_at "my ofb" | (refine strip ?_; first | walk_at "my ofb" | (refine strip ?_; first | walk_at "my ofb" | (refine strip ?_; first | walk_at "my ofb" | (refine strip ?_; first | walk_at "my ofb" | (refine strip ?_; walk_at "my ofb"))))))
  k_with "my omega" => (with_reducible first | (show _ < _; first | exact room (by assumption) rfl | exact room0 (by assumption) | exact room2 (by assumption) rfl | exact room3 (by assumption) rfl | exact room4 (by assumption) rfl | exact room5 (by assumption) rfl | exact lt_ble rfl | exact om_i63' (by assumption) rfl | exact om_i63 (by assumption) rfl | exact Nat.succ_lt_succ (by assumption) | exact Nat.lt_of_succ_lt_succ (by assumption) | exact Int.ofNat_lt.2 (by assumption) | exact Int.ofNat_lt.1 (by assumption)) | (show _ ≤ _; first | exact Nat.le_of_ble_eq_true rfl | exact Nat.le_refl _ | exact Nat.le_succ _ | exact Nat.le_add_right _ _ | exact om_ltle (by assumption) rfl | exact om_le (by assumption) rfl | exact Nat.le_of_lt (by assumption) | exact Int.ofNat_le.2 (by assumption) | exact Int.natCast_nonneg _ | exact Int.ofNat_le.1 (by assumption) | exact om_addl rfl) | (show _ ≠ _; first | walk_at "my off" | exact om_nne (by assumption)) | (show _ = _; first | exact om_nn (by assumption)) | (show False; first | exact no3 (by assumption) | exact no4 (by assumption) | exact no5 (by assumption) | exact no6 (by assumption)) | fail "no")
  k_with "my cmp" => (((case F => k_asm); (case o => exact rfl); (case v => rfl)))
  k_with "isTrue Compare" => (first | (k_here; (with_reducible first | show wpAny _ _ (isTrue _ (envOf _ _ _ _ _) _) _ _ _ | show wpAny _ _ (isTrue _ (envX _ _ _ _ _ _) _) _ _ _); first | ((with_reducible show wpAny _ _ (isTrue (.Compare (.Name _ _) [_] [.Constant (.str _) _ _] _) _ _) _ _ _); k_dflt (refine' cmp_s ?F ?v ?o ?_ ?m; walk_at "my cmp"; (case m => with_unfolding_all rfl); k_whole; intro t' tk')) | ((with_reducible show wpAny _ _ (isTrue (.Compare (.Name _ _) [_] [.Constant (.int _) _ _] _) _ _) _ _ _); k_dflt (refine' cmp_i ?F ?v ?o ?_ ?m; walk_at "my cmp"; (case m => with_unfolding_all rfl); k_whole; intro t' tk')) | ((with_reducible show wpAny _ _ (isTrue (.Compare (.Name _ _) [_] [.Constant .none _ _] _) _ _) _ _ _); k_dflt (refine' cmp_n ?F ?v ?o ?_ ?m; walk_at "my cmp"; (case m => with_unfolding_all rfl); k_whole)) | ((with_reducible show wpAny _ _ (isTrue (.Compare (.Name _ _) [_] [.Name _ _] _) _ _) _ _ _); k_dflt (refine' cmp_nn ?F ?v ?o ?u ?p ?_ ?m; walk_at "my cmp"; (case p => exact rfl); (case u => rfl); (case m => with_unfolding_all rfl); k_whole))) | with_reducible refine cmp_1 ?_)
  k_with "exec If" => (with_reducible refine if_T ?_)
  k_with "my puts" => (first | with_reducible exact lex_state | with_reducible exact lex_token | with_reducible exact lex_line | with_reducible exact sio_pos)
  k_with "ite" => (first | with_reducible refine ite_tt ?_ | with_reducible refine ite_ff ?_)
  k_with "call ref" => (((with_reducible show wpAny _ _ (call (Value.ref 773) _) _ _ _); (try dsimp only [List.cons_append, List.nil_append]); (with_reducible rename Fr _ _ _ _ => F'); (with_reducible rename News _ _ _ _ => N'); (refine' k_cmp ?hr ?la ?lb ?ra ?rb ?B F' N' ?X ?T rfl rfl ?dp ?un ?_ ?_; (case hr => with_reducible assumption); (case la => with_reducible assumption); (case lb => with_reducible assumption); (case ra => with_reducible assumption); (case rb => with_reducible assumption); (case B => with_reducible assumption); (case X => with_reducible assumption); (case T => with_reducible assumption); (case dp => omega); (case un => omega)); all_goals (first | intro e1' h' tk' e' h₂ F' R' U' | intro n' t' h' tk' e1' F' N')))
  k_with "eval Name" => (((with_reducible rename Fr _ _ _ _ => F'); k_dflt (refine nameX_L F' (by rfl) ?_)))
  k_with "eval Name" => (((with_reducible rename Fr _ _ _ _ => F'); k_dflt (refine nameX_KIn F' (by with_reducible assumption) rfl (by with_reducible assumption) ?_)))
  k_with "getAttr ref" => (((with_reducible rename Fr _ _ _ _ => F'); (refine' k_slotget ?Y F' ?x ?h ?d ?hh ?_; (case Y => with_reducible assumption); (case x => with_reducible assumption); (case h => with_reducible assumption); (case d => with_reducible assumption); (case hh => rfl))))
  k_fill
  exact ⟨rfl, rfl⟩
open PySem.W.X PySem.Builtin
set_option autoImplicit false
theorem c_kcmp {base : Heap} {s : Shared} {R : Result → Shared → Prop} {vn : Value}
    {K : Frag} {a nd md c bt sl stt : Addr} {f c' : Nat → Addr} {doc ctv : Nat → Value} {k vv : Nat → Tok} {tm to td t0 tq : Tok} (Y : KK w.params vn (.ref 773) K a nd md c bt sl stt f c' doc ctv k vv tm to td t0 tq) (XK : K.In base)
    {i : Nat} {op : CmpOp} {opB : Int → Bool} {p1 p2 p3 p4 p5 p6 p7 p8 p9 q1 q2 : Pos} {n0 : Nat} (hi : i < 6) (hi0 : i ≠ 0)
    (hb : kBody w.params i = [Stmt.Return (some ((((Expr.Name (Str.ofString "mycmp") p1).Call [(Expr.Name (Str.ofString "self") p2).Attribute (Str.ofString "obj") p3, (Expr.Name (Str.ofString "other") p4).Attribute (Str.ofString "obj") p5] [] p6).Compare [op] [Expr.Constant (Const.int 0) n0 p7] p8))) p9])
    (hs : kScope w.params i = { kind := ScopeKind.function, names := [(Str.ofString "self", NameKind.local), (Str.ofString "other", NameKind.local), (Str.ofString "mycmp", NameKind.free)], isGenerator := false, isCoroutine := false })
    (hp : kPars w.params i = { posonlyargs := [], args := [{ arg := Str.ofString "self", annotation := none, pos := q1 }, { arg := Str.ofString "other", annotation := none, pos := q2 }], vararg := none, kwonlyargs := [], kw_defaults := [], kwarg := none, defaults := [] })
    (hop : ∀ (A : Around) (E : Value → Shared → Prop) (s : Shared) (Q : Value → Shared → Prop) n tk tz, Q (.bool (opB n)) s → wpAny (model PG w) A (compareOp op (.int n tk) (.int 0 tz)) Q E s)
    {x dx y dy : Addr} {la lb ka kb : List Nat} {na nb : Bool} {ta tb : Tok} {r : Option Int} (hr : r = cmpR ka na kb nb) (hla : la.length < 400000) (hlb : lb.length < 400000) (ha : Reads la ka na) (hb' : Reads lb kb nb)
    (hx : base.get? x = some (kInst a dx (.str (tx la) ta))) (hdx : base.get? dx = some emptyDict) (hy : base.get? y = some (kInst a dy (.str (tx lb) tb))) (hdy : base.get? dy = some emptyDict)
    (HQ : base.CodeRec (.ref (c' i)) (kQual w.params i)) (B : Below (ar dp un gd outs) base outs s.heap) (X : (pre.heap_1 w.params).In base) (TT : Top p loose mean mg mb base) (hdp : dp + 25 < recursionLimit) (hu : un + 140 < cLine)
    (ret : ∀ n h' tk', r = some n → Kept [] s.heap h' → R (.ok (.ret (.bool (opB n)))) { s with heap := h', toks := tk' })
    (bad : r = none → ∀ h' tk' e, Refused base outs s.heap [] e h' → R (.error (.ref e)) { s with heap := h', toks := tk' }) :
    codeAny (model PG w) (ar dp un gd outs) (.call (.ref (f i)) ⟨[.ref x, .ref y], []⟩) R s := by
  have ho := Y.hF i hi
  unfold kFn at ho
  rw [if_neg hi0, hb, hs, hp] at ho
  refine enterX B XK TT (cl := [(Str.ofString "mycmp", c)]) ho (HQ.keeps B.stays) (by omega) (binds := [(Str.ofString "self", .ref x), (Str.ofString "other", .ref y)]) ?bind ?loc ?body rfl rfl rfl ?cell
  case bind =>
    generalize kName w.params i = kn
    generalize kQual w.params i = kq
    exact BindsTo.of_eq (by kernel_rfl)
  case loc => exact locs rfl
  case cell => decide
  case body =>
  intro g L h₁ KK0 F' B' st
  have N' : News g L h₁ [] := fun _ q => nomatch q
  have X' := X.keeps st
  have T' := TT.keeps st
  have XK' : KIn K g := XK.keeps st
  have hv := Y.hC
  have hx' := st _ _ hx
  have hdx' := st _ _ hdx
  have hy' := st _ _ hy
  have hdy' := st _ _ hdy
  clear XK
  ktr_rel
  · refine hop _ _ _ _ _ _ _ ?_
    ktr_rel
    all_goals (repeat' (first | k_unfold | dsimp only))
    with_reducible rename Fr _ _ _ _ => F'
    with_reducible rename Kept _ _ _ => K'
    exact ret _ _ _ (by with_reducible assumption) (kept_of K' F')
  · with_reducible rename Fr _ _ _ _ => F'
    refine leave_onX B' F' (by with_reducible assumption) (by with_reducible assumption) fun h₂ R₂ U₂ => ?_
    exact bad (by with_reducible assumption) _ _ _ (refused_of KK0 R₂ U₂)
noncomputable def kOp : Nat → CmpOp
  | 1 => .Lt
  | 2 => .Gt
  | 3 => .Eq
  | 4 => .LtE
  | _ => .GtE
noncomputable def kTest : Nat → Int → Bool
  | 1, n => n < 0
  | 2, n => n > 0
  | 3, n => n == 0
  | 4, n => n ≤ 0
  | _, n => n ≥ 0
end
section
open PySem.W.X PySem.Builtin
set_option autoImplicit false
structure KCls where
  a : Addr
  nd : Addr
  md : Addr
  c : Addr
  bt : Addr
  sl : Addr
  stt : Addr
  f : Nat → Addr
  c' : Nat → Addr
  oc : Nat → Obj
  doc : Nat → Value
  ctv : Nat → Value
  k : Nat → Tok
  vv : Nat → Tok
  tm : Tok
  to : Tok
  td : Tok
  t0 : Tok
  tq : Tok
noncomputable abbrev KCls.own (Z : KCls) (P : Params) (vn v : Value) : List (Addr × Obj) := kLed P vn v Z.a Z.nd Z.md Z.c Z.bt Z.sl Z.stt Z.f Z.c' Z.doc Z.ctv Z.k Z.vv Z.tm Z.to Z.td Z.t0 Z.tq
noncomputable def KCls.led (Z : KCls) (P : Params) (vn v : Value) : List (Addr × Obj) := Z.own P vn v ++ cLed Z.c' Z.oc
noncomputable def KCls.Ok (Z : KCls) (P : Params) : Prop := ∀ i, i < 6 → CodeOf (Z.oc i) (kQual P i)
noncomputable def Stand (l : List (Addr × Obj)) (h : Heap) : Prop := ∀ q ∈ l, h.get? q.1 = some q.2
section
variable {P : Params} {vn v : Value} {Z : KCls} {h : Heap}
theorem KCls.kk (S : Stand (Z.led P vn v) h) : KK P vn v (Z.own P vn v) Z.a Z.nd Z.md Z.c Z.bt Z.sl Z.stt Z.f Z.c' Z.doc Z.ctv Z.k Z.vv Z.tm Z.to Z.td Z.t0 Z.tq := kk_of (h := h) fun q hq => S q (List.mem_append_left _ hq)
theorem KCls.kin (S : Stand (Z.led P vn v) h) : Frag.In (Z.own P vn v) h := in_of fun q hq => S q (List.mem_append_left _ hq)
theorem KCls.code (hk : Z.Ok P) (S : Stand (Z.led P vn v) h) {i : Nat} (hi : i < 6) : h.CodeRec (.ref (Z.c' i)) (kQual P i) := by
  obtain ⟨vs, t, e1, e2⟩ := hk i hi
  refine ⟨Z.c' i, Z.oc i, vs, t, rfl, S (Z.c' i, Z.oc i) (List.mem_append_right _ ?_), e1, e2⟩
  rcases i with _ | _ | _ | _ | _ | _ | i
  · exact List.mem_of_getElem? (i := 0) rfl
  · exact List.mem_of_getElem? (i := 1) rfl
  · exact List.mem_of_getElem? (i := 2) rfl
  · exact List.mem_of_getElem? (i := 3) rfl
  · exact List.mem_of_getElem? (i := 4) rfl
  · exact List.mem_of_getElem? (i := 5) rfl
  · omega
end
theorem stand_W {dp un : Nat} {gd : Option (List Code)} {outs : List Env} {base g h : Heap} {L : Addr} {m : Str → Option Value} {env : Env} {led l : List (Addr × Obj)} (B : Below (ar dp un gd outs) base outs g) (F : Fr g L h m) (N : News g L h led) (hf : env.frame = some L) (hl : ∀ q ∈ l, q ∈ led) :
    Stand l (widest h (env :: outs) []) := fun q hq => widest_in (N q (hl q hq)).1 List.not_mem_nil ((free_of B F N hf fun x h => h) q (hl q hq)).2.2
theorem news_W {dp un : Nat} {gd : Option (List Code)} {outs : List Env} {base g h : Heap} {L : Addr} {m : Str → Option Value} {env : Env} {led : List (Addr × Obj)} {b : Addr} {o : Obj} (B : Below (ar dp un gd outs) base outs g) (F : Fr g L h m) (N : News g L h led) (hf : env.frame = some L) (hq : (b, o) ∈ led) :
    (widest h (env :: outs) []).get? b = some o := widest_in (N _ hq).1 List.not_mem_nil ((free_of B F N hf fun x h => h) _ hq).2.2
noncomputable def KShape (P : Params) (i : Nat) (op : CmpOp) : Prop := ∃ (p1 p2 p3 p4 p5 p6 p7 p8 p9 q1 q2 : Pos) (n0 : Nat),
    kBody P i = [Stmt.Return (some ((((Expr.Name (Str.ofString "mycmp") p1).Call [(Expr.Name (Str.ofString "self") p2).Attribute (Str.ofString "obj") p3, (Expr.Name (Str.ofString "other") p4).Attribute (Str.ofString "obj") p5] [] p6).Compare [op] [Expr.Constant (Const.int 0) n0 p7] p8))) p9] ∧
    kScope P i = { kind := ScopeKind.function, names := [(Str.ofString "self", NameKind.local), (Str.ofString "other", NameKind.local), (Str.ofString "mycmp", NameKind.free)], isGenerator := false, isCoroutine := false } ∧
    kPars P i = { posonlyargs := [], args := [{ arg := Str.ofString "self", annotation := none, pos := q1 }, { arg := Str.ofString "other", annotation := none, pos := q2 }], vararg := none, kwonlyargs := [], kw_defaults := [], kwarg := none, defaults := [] }
theorem kshape1 (P : Params) : KShape P 1 .Lt := by
  have e1 : kBody P 1 = kBody P 1 := rfl
  have e2 : kScope P 1 = kScope P 1 := rfl
  have e3 : kPars P 1 = kPars P 1 := rfl
  conv at e1 => rhs; whnf
  conv at e2 => rhs; whnf
  conv at e3 => rhs; whnf
  exact ⟨_, _, _, _, _, _, _, _, _, _, _, _, e1, e2, e3⟩
theorem kshape2 (P : Params) : KShape P 2 .Gt := by
  have e1 : kBody P 2 = kBody P 2 := rfl
  have e2 : kScope P 2 = kScope P 2 := rfl
  have e3 : kPars P 2 = kPars P 2 := rfl
  conv at e1 => rhs; whnf
  conv at e2 => rhs; whnf
  conv at e3 => rhs; whnf
  exact ⟨_, _, _, _, _, _, _, _, _, _, _, _, e1, e2, e3⟩
theorem kshape3 (P : Params) : KShape P 3 .Eq := by
  have e1 : kBody P 3 = kBody P 3 := rfl
  have e2 : kScope P 3 = kScope P 3 := rfl
  have e3 : kPars P 3 = kPars P 3 := rfl
  conv at e1 => rhs; whnf
  conv at e2 => rhs; whnf
  conv at e3 => rhs; whnf
  exact ⟨_, _, _, _, _, _, _, _, _, _, _, _, e1, e2, e3⟩
theorem kshape4 (P : Params) : KShape P 4 .LtE := by
  have e1 : kBody P 4 = kBody P 4 := rfl
  have e2 : kScope P 4 = kScope P 4 := rfl
  have e3 : kPars P 4 = kPars P 4 := rfl
  conv at e1 => rhs; whnf
  conv at e2 => rhs; whnf
  conv at e3 => rhs; whnf
  exact ⟨_, _, _, _, _, _, _, _, _, _, _, _, e1, e2, e3⟩
theorem kshape5 (P : Params) : KShape P 5 .GtE := by
  have e1 : kBody P 5 = kBody P 5 := rfl
  have e2 : kScope P 5 = kScope P 5 := rfl
  have e3 : kPars P 5 = kPars P 5 := rfl
  conv at e1 => rhs; whnf
  conv at e2 => rhs; whnf
  conv at e3 => rhs; whnf
  exact ⟨_, _, _, _, _, _, _, _, _, _, _, _, e1, e2, e3⟩
section
variable {base g : Heap} {L : Addr} {m : Str → Option Value} {env : Env} {s : Shared} {E : Value → Shared → Prop} {led : List (Addr × Obj)} {vn : Value} {Z : KCls} {x dx y dy : Addr} {la lb ka kb : List Nat} {na nb : Bool} {ta tb : Tok} {r : Option Int}
theorem k_kcmp {Q : Value → Shared → Prop} {i : Nat} {op : CmpOp} {opB : Int → Bool} (hi : i < 6) (hi0 : i ≠ 0) (KS : KShape w.params i op)
    (hop : ∀ (A : Around) (E : Value → Shared → Prop) (s : Shared) (Q : Value → Shared → Prop) n tk tz, Q (.bool (opB n)) s → wpAny (model PG w) A (compareOp op (.int n tk) (.int 0 tz)) Q E s)
    (hr : r = cmpR ka na kb nb) (hla : la.length < 400000) (hlb : lb.length < 400000) (ha : Reads la ka na) (hb : Reads lb kb nb)
    (B : Below (ar dp un gd outs) base outs g) (F : Fr g L s.heap m) (N : News g L s.heap led) (X : (pre.heap_1 w.params).In base) (TT : Top p loose mean mg mb base)
    (hZ : ∀ q ∈ Z.led w.params vn (.ref 773), q ∈ led) (hk : Z.Ok w.params) (hx : (x, kInst Z.a dx (.str (tx la) ta)) ∈ led) (hdx : (dx, emptyDict) ∈ led) (hy : (y, kInst Z.a dy (.str (tx lb) tb)) ∈ led) (hdy : (dy, emptyDict) ∈ led)
    (hf : env.frame = some L) (hkd : env.scope.kind = .function) (hdp : dp + 28 < recursionLimit) (hu : un + 150 < cLine)
    (q : ∀ n h' tk', r = some n → Fr g L h' m → News g L h' led → Q (.bool (opB n)) { s with heap := h', toks := tk' })
    (bad : r = none → ∀ h' tk' e, Refused (widest s.heap (env :: outs) []) (env :: outs) s.heap [] e h' → E (.ref e) { s with heap := h', toks := tk' }) {u : Nat} (hu2 : u ≤ un + 10) :
    codeAny (model PG w) (ar (dp + 1) u gd (env :: outs)) (.call (.ref (Z.f i)) ⟨[.ref x, .ref y], []⟩) (fun r s' => match r with | .ok (.ret v) => Q v s' | .ok _ => False | .error e => E e s') s := by
  have V := free_of B F N hf (pre := []) fun _ h => nomatch h
  have BX : Below (ar (dp + 1) u gd (env :: outs)) base (env :: outs) s.heap := by
    have := pushX B F hf hkd
    exact ⟨rfl, this.stays, this.frames⟩
  have W1 := base_widest BX V
  have W2 := below_widest (as := []) BX
  simp only [List.map_nil] at W1
  have S := stand_W B F N hf hZ
  obtain ⟨_, _, _, _, _, _, _, _, _, _, _, _, e1, e2, e3⟩ := KS
  refine c_kcmp (dp := dp + 1) (un := u) (outs := env :: outs) (KCls.kk S) (KCls.kin S) hi hi0 e1 e2 e3 hop hr hla hlb ha hb (news_W B F N hf hx) (news_W B F N hf hdx) (news_W B F N hf hy) (news_W B F N hf hdy) (KCls.code hk S hi) W2 (X.keeps W1) (TT.keeps W1) (by omega) (by omega) ?_ ?_
  · intro n h' tk' e kk
    exact q n h' tk' e (back0 F N kk).1 (back0 F N kk).2
  · intro e1 h' tk' e r
    exact bad e1 h' tk' e r
end
section
variable {w : World} {A : Around} {E : Value → Shared → Prop} {K : Frag} {C x y f : Addr} {h : Heap} {g : Array GenState} {d : Drawn} {t : Nat} {os : OsState} {ox oy : Obj} {od : Option Obj}
theorem rich_own {op : CmpOp} {Q : Value → Shared → Prop} (hu : A.units < cLine) (X : K.In h) (I : InstAt h x ox C od) (hy : h.get? y = some oy) (hyc : oy.cls = .ref C) (hs : findIn K (.ref C) (cmpInfo op).2.1 = some (some (.ref f))) (hf : isFn K (.ref f) = true)
    (hq : wpAny (model PG w) A (call (.ref f) [.ref x, .ref y]) (fun v s' => ∃ b, v = .bool b ∧ Q (.bool b) s') E ⟨h, g, d, t, os⟩) : wpAny (model PG w) A (richCompare op (.ref x) (.ref y)) Q E ⟨h, g, d, t, os⟩ := by
  have hx := I.at_
  have hxc := I.cls
  delta richCompare
  simp only [oneThing_ref]
  refine wpAny_holding (wpAny_bind (wpAny_cRoomFor hu ?_))
  refine wpAny_bind (wpAny_typeOf_ref hx ?_)
  rw [hxc]
  refine wpAny_bind (wpAny_typeOf_ref hy ?_)
  rw [hyc, show (Value.ref C != Value.ref C) = false from by simp]
  simp only [Bool.false_eq_true, if_false]
  refine wpAny_bind (wpAny_pure ?_)
  simp only [Bool.false_eq_true, if_false]
  refine wpAny_bind ?_
  delta tryCompare
  refine wpAny_bind (ifBound_K (s := ⟨h, g, d, t, os⟩) X I hs hf (wpAny_mono hq (fun v s' hv => ?_) fun _ _ e => e))
  obtain ⟨b, rfl, hq⟩ := hv
  exact wpAny_pure (wpAny_pure hq)
end
section
variable {base g : Heap} {L : Addr} {m : Str → Option Value} {env : Env} {s : Shared} {E : Value → Shared → Prop} {led : List (Addr × Obj)} {vn : Value} {Z : KCls} {x dx y dy : Addr} {la lb ka kb : List Nat} {na nb : Bool} {ta tb : Tok} {r : Option Int}
theorem stand_led (N : News g L s.heap led) {l : List (Addr × Obj)} (hl : ∀ q ∈ l, q ∈ led) : Stand l s.heap := fun q hq => (N q (hl q hq)).1
theorem k_fn {P : Params} {h : Heap} (S : Stand (Z.led P vn (.ref 773)) h) {i : Nat} (hi : i < 6) : isFn (Z.own P vn (.ref 773)) (.ref (Z.f i)) = true := by
  unfold isFn
  rw [k_tfn (KCls.kk S) hi]
  rfl
theorem k_find {P : Params} {h : Heap} (S : Stand (Z.led P vn (.ref 773)) h) : findIn (Z.own P vn (.ref 773)) (.ref Z.a) (cmpInfo .Lt).2.1 = some (some (.ref (Z.f 1))) ∧ findIn (Z.own P vn (.ref 773)) (.ref Z.a) (cmpInfo .Gt).2.1 = some (some (.ref (Z.f 2))) ∧
    findIn (Z.own P vn (.ref 773)) (.ref Z.a) (cmpInfo .Eq).2.1 = some (some (.ref (Z.f 3))) ∧ findIn (Z.own P vn (.ref 773)) (.ref Z.a) (cmpInfo .LtE).2.1 = some (some (.ref (Z.f 4))) ∧ findIn (Z.own P vn (.ref 773)) (.ref Z.a) (cmpInfo .GtE).2.1 = some (some (.ref (Z.f 5))) := by
  have Y := KCls.kk S
  exact ⟨k_f1 Y, k_f2 Y, k_f3 Y, k_f4 Y, k_f5 Y⟩
theorem k_op {Q : Value → Shared → Prop} {i : Nat} {op : CmpOp} {opB : Int → Bool} (hi : i < 6) (hi0 : i ≠ 0) (KS : KShape w.params i op)
    (hfd : findIn (Z.own w.params vn (.ref 773)) (.ref Z.a) (cmpInfo op).2.1 = some (some (.ref (Z.f i))))
    (hop : ∀ (A : Around) (E : Value → Shared → Prop) (s : Shared) (Q : Value → Shared → Prop) n tk tz, Q (.bool (opB n)) s → wpAny (model PG w) A (compareOp op (.int n tk) (.int 0 tz)) Q E s)
    (hr : r = cmpR ka na kb nb) (hla : la.length < 400000) (hlb : lb.length < 400000) (ha : Reads la ka na) (hb : Reads lb kb nb)
    (B : Below (ar dp un gd outs) base outs g) (F : Fr g L s.heap m) (N : News g L s.heap led) (X : (pre.heap_1 w.params).In base) (TT : Top p loose mean mg mb base)
    (hZ : ∀ q ∈ Z.led w.params vn (.ref 773), q ∈ led) (hk : Z.Ok w.params) (hx : (x, kInst Z.a dx (.str (tx la) ta)) ∈ led) (hdx : (dx, emptyDict) ∈ led) (hy : (y, kInst Z.a dy (.str (tx lb) tb)) ∈ led) (hdy : (dy, emptyDict) ∈ led)
    (hf : env.frame = some L) (hkd : env.scope.kind = .function) (hdp : dp + 28 < recursionLimit) (hu : un + 150 < cLine)
    (q : ∀ n h' tk', r = some n → Fr g L h' m → News g L h' led → Q (.bool (opB n)) { s with heap := h', toks := tk' })
    (bad : r = none → ∀ h' tk' e, Refused (widest s.heap (env :: outs) []) (env :: outs) s.heap [] e h' → E (.ref e) { s with heap := h', toks := tk' }) :
    wpAny (model PG w) ((ar dp un gd outs).deeper env) (richCompare op (.ref x) (.ref y)) Q E s := by
  have S := stand_led N hZ
  have I : InstAt s.heap x (kInst Z.a dx (.str (tx la) ta)) Z.a (some emptyDict) := ⟨(N _ hx).1, rfl, rfl, (N _ hdx).1⟩
  obtain ⟨hh, gg, d, t, os⟩ := s
  refine rich_own (by show un + 3 < cLine; omega) (KCls.kin S) I (N _ hy).1 rfl hfd (k_fn S hi) ?_
  refine wpAny_call ?_
  refine k_kcmp (s := ⟨hh, gg, d, t, os⟩) (Q := fun v s' => ∃ b, v = .bool b ∧ Q (.bool b) s') hi hi0 KS hop hr hla hlb ha hb B F N X TT hZ hk hx hdx hy hdy hf hkd hdp hu (fun n h' tk' e F' N' => ⟨_, rfl, q n h' tk' e F' N'⟩) bad (u := un + 3) (by omega)
end
section
variable {base g : Heap} {L : Addr} {m : Str → Option Value} {env : Env} {s : Shared} {E : Value → Shared → Prop} {led : List (Addr × Obj)} {vn : Value} {Z : KCls} {x dx y dy : Addr} {la lb ka kb : List Nat} {na nb : Bool} {ta tb : Tok} {r : Option Int}
theorem own_ne {P : Params} {h : Heap} {u : Value} (S : Stand (Z.led P vn (.ref 773)) h) (hx : h.get? x = some (kInst Z.a dx u)) : h.OwnEqNoNe x Z.a (Z.f 3) "object" [.type "object"] := by
  have Y := KCls.kk S
  have XK := KCls.kin S
  have hC := XK _ _ Y.hA
  have hN := XK _ _ Y.hN
  have hF := XK _ _ (Y.hF 3 (by omega))
  have e1 : nsFind (entsOf (kD P Z.k Z.vv Z.f Z.sl Z.stt [ent P (Str.ofString "obj") Z.to (.ref Z.md), ent P (Str.ofString "__doc__") Z.td .none] 3)).toArray (Str.ofString "__eq__") = some (.ref (Z.f 3)) := by kernel_rfl
  have e2 : nsFind (entsOf (kD P Z.k Z.vv Z.f Z.sl Z.stt [ent P (Str.ofString "obj") Z.to (.ref Z.md), ent P (Str.ofString "__doc__") Z.td .none] 3)).toArray (Str.ofString "__ne__") = none := by kernel_rfl
  have e3 : h.Ns Z.nd (fun n => nsFind (entsOf (kD P Z.k Z.vv Z.f Z.sl Z.stt [ent P (Str.ofString "obj") Z.to (.ref Z.md), ent P (Str.ofString "__doc__") Z.td .none] 3)).toArray n) := by
    refine ⟨_, _, _, hN, rfl, ?_, fun _ => rfl⟩
    intro e he
    have he' : e ∈ entsOf (kD P Z.k Z.vv Z.f Z.sl Z.stt [ent P (Str.ofString "obj") Z.to (.ref Z.md), ent P (Str.ofString "__doc__") Z.td .none] 3) := by simpa [entsOf, kD] using he
    have hall : ((entsOf (kD P Z.k Z.vv Z.f Z.sl Z.stt [ent P (Str.ofString "obj") Z.to (.ref Z.md), ent P (Str.ofString "__doc__") Z.td .none] 3)).all fun e => match e.key with | .str _ _ => true | _ => false) = true := by kernel_rfl
    have := List.all_eq_true.mp hall e he'
    cases q : e.key with
    | str n t => exact ⟨n, t, rfl⟩
    | _ => rw [q] at this; cases this
  have e4 : mroOf (.type "object") = pure [.type "object"] := PySem.F.cmp_object.mro
  have e5 : ∃ y, typeLookup (.type "object") "__eq__" = pure y := ⟨some (.builtin "object.__eq__"), PySem.F.cmp_object.eq.lookup⟩
  obtain ⟨y, e5⟩ := e5
  exact ⟨kInst Z.a dx u, _, _, _, Z.nd, _, _, _, _, _, _, _, _, _, _, _, _, "object.__new__", _, y, hx, rfl, hC, e3, e1, hF, rfl, e4, e5, e2⟩
theorem k_ne {Q : Value → Shared → Prop}
    (hr : r = cmpR ka na kb nb) (hla : la.length < 400000) (hlb : lb.length < 400000) (ha : Reads la ka na) (hb : Reads lb kb nb)
    (B : Below (ar dp un gd outs) base outs g) (F : Fr g L s.heap m) (N : News g L s.heap led) (X : (pre.heap_1 w.params).In base) (TT : Top p loose mean mg mb base)
    (hZ : ∀ q ∈ Z.led w.params vn (.ref 773), q ∈ led) (hk : Z.Ok w.params) (hx : (x, kInst Z.a dx (.str (tx la) ta)) ∈ led) (hdx : (dx, emptyDict) ∈ led) (hy : (y, kInst Z.a dy (.str (tx lb) tb)) ∈ led) (hdy : (dy, emptyDict) ∈ led)
    (hf : env.frame = some L) (hkd : env.scope.kind = .function) (hdp : dp + 28 < recursionLimit) (hu : un + 150 < cLine)
    (q : ∀ n h' tk', r = some n → Fr g L h' m → News g L h' led → Q (.bool (!(n == 0))) { s with heap := h', toks := tk' })
    (bad : r = none → ∀ h' tk' e, Refused (widest s.heap (env :: outs) []) (env :: outs) s.heap [] e h' → E (.ref e) { s with heap := h', toks := tk' }) :
    wpAny (model PG w) ((ar dp un gd outs).deeper env) (compareOp .NotEq (.ref x) (.ref y)) Q E s := by
  have S := stand_led N hZ
  obtain ⟨hh, gg, d, t, os⟩ := s
  refine compareOp_ne_ownEq PySem.F.cmp_object (own_ne S (N _ hx).1) (N _ hy).1 rfl (by show un + 3 + 1 < cLine; omega) ?_
  refine wpAny_call ?_
  have := k_kcmp (s := ⟨hh, gg, d, t, os⟩) (E := E) (Q := fun v s' => ∃ b, v = .bool b ∧ Q (.bool (!b)) s') (opB := fun n => n == 0) (by omega) (by omega) (kshape3 w.params) (fun A E s Q n tk tz h => PySem.P.eq_int h) hr hla hlb ha hb B F N X TT hZ hk hx hdx hy hdy hf hkd hdp hu (fun n h' tk' e F' N' => ⟨_, rfl, q n h' tk' e F' N'⟩) bad (u := un + 4) (by omega)
  exact this
end
end
section
theorem fill_Kf : PySem.Challenge.rw_ij0136_01 = PySem.Challenge.rw_ij0136_01 ∧ pre.heap_1 = pre.heap_1 := by
  k_fill
  exact ⟨rfl, rfl⟩
open PySem.W.X PySem.Builtin
set_option autoImplicit false
section
variable {base g : Heap} {L : Addr} {m : Str → Option Value} {env : Env} {s : Shared} {E : Value → Shared → Prop} {Q : Value → Shared → Prop}
theorem k_key {led : List (Addr × Obj)} {vn v u : Value} {Z : KCls}
    (B : Below (ar dp un gd outs) base outs g) (F : Fr g L s.heap m) (N : News g L s.heap led) (TT : Top p loose mean mg mb base)
    (hf : env.frame = some L) (hkd : env.scope.kind = .function) (hZ : ∀ q ∈ Z.led w.params vn v, q ∈ led) (hk : Z.Ok w.params) (hdp : dp + 8 < recursionLimit)
    (q : ∀ x dx h' tk', Fr g L h' m → News g L h' ((x, kInst Z.a dx u) :: (dx, emptyDict) :: led) → Q (.ref x) { s with heap := h', toks := tk' }) :
    wpAny (model PG w) ((ar dp un gd outs).deeper env) (call (.ref Z.a) [u]) Q E s := by
  have S := stand_led N hZ
  refine call_by fun R ok er => c_key (dp := dp + 1) (un := un + 3) (outs := env :: outs) (KCls.kk S) (KCls.kin S) (KCls.code hk S (by omega)) (pushX B F hf hkd) TT (by omega) ?_
  intro x dx h' tk' kk h1 h2 n1 n2
  obtain ⟨F', N'⟩ := back (pre := []) (post := [(x, kInst Z.a dx u), (dx, emptyDict)]) F N (fun _ h => nomatch h) (fun x hx => ⟨hx, List.not_mem_nil⟩) (fun b o e _ => kk b o e)
    (List.forall_mem_cons.2 ⟨h1, List.forall_mem_cons.2 ⟨h2, fun _ h => nomatch h⟩⟩) (List.forall_mem_cons.2 ⟨.inr n1, List.forall_mem_cons.2 ⟨.inr n2, fun _ h => nomatch h⟩⟩)
  exact ok _ _ (q x dx h' tk' F' N')
theorem ch732 {P : Params} {h : Heap} (X : (pre.heap_1 P).In h) : CodeHd h 732 728 := ⟨_, _, _, _, _, _, _, _, _, X _ _ (by k_is), rfl, rfl, rfl, rfl, rfl, rfl, rfl, rfl, by decide⟩
theorem k_ctk1 {rest : List (Addr × Obj)} {v : Value}
    (B : Below (ar dp un gd outs) base outs g) (F : Fr g L s.heap m) (N : News g L s.heap ((728, tabL []) :: rest)) (X : (pre.heap_1 w.params).In base) (TT : Top p loose mean mg mb base)
    (hf : env.frame = some L) (hkd : env.scope.kind = .function) (ap : ∀ x ∈ rest, x.1 ≠ 728) (hdp : dp + 8 < recursionLimit) (hu : un + 50 < cLine)
    (q : ∀ (Z : KCls) (cc : Addr) (ocK : Obj) (PP : Addr) h' tk', Z.Ok w.params → (∀ h : Heap, h.get? cc = some ocK → CodeHd h cc PP) → @LT.lt Nat _ 728 PP → Fr g L h' m →
      News g L h' (Z.led w.params ((mg (Str.ofString "__name__")).getD .none) v ++ [(cc, ocK), (PP, tabL (kTab w.params Z.c')), (728, tabL [rawInt 725, rawInt 4, .ref cc])] ++ rest) → Q (.ref Z.a) { s with heap := h', toks := tk' }) :
    wpAny (model PG w) ((ar dp un gd outs).deeper env) (call (.ref 733) [v]) Q E s := by
  have V := free_of B F N hf (pre := [(728, tabL [])]) fun x h => by
    rcases List.mem_cons.mp h with rfl | h
    · exact .head _
    · cases h
  have BX := pushX B F hf hkd
  have W1 := base_widest BX V
  have W2 := below_widest (as := [728]) BX
  simp only [List.map_cons, List.map_nil] at W1
  have X' := X.keeps W1
  have h7 := (N _ (.head _)).1
  refine call_by fun R ok er => c_ctk1 (dp := dp + 1) (un := un + 3) (outs := env :: outs) W2 X' (TT.keeps W1) ?hV ?D (ch732 X') (by omega) (by omega) ?_
  case hV =>
    intro x hx
    rcases List.mem_cons.mp hx with rfl | hx
    · exact hideAll_none _ (List.mem_append_left _ (.head _))
    · cases hx
  case D =>
    refine ⟨fun b o e _ => of_hideAll _ e, (fun _ h => nomatch h), List.nodup_nil, fun x hx => ?_, List.pairwise_singleton _ _⟩
    rcases List.mem_cons.mp hx with rfl | hx
    · exact ⟨h7, hideAll_none _ (.head _)⟩
    · cases hx
  intro a nd md c cc PP bt sl stt f c' oc doc ctv ocK k vv tm to td t0 tq h' tk' lt kk hco hcc hall
  obtain ⟨F', N'⟩ := back (pre := [(728, tabL [])]) (rest := rest) F N (fun x h => by
      rcases List.mem_cons.mp h with rfl | h
      · exact .head _
      · cases h) (fun x hx => ⟨.tail _ hx, fun hm => by
      simp only [List.map_cons, List.map_nil, List.mem_cons, List.not_mem_nil, or_false] at hm
      exact ap x hx hm⟩) kk (fun x hx => (hall x hx).1) (fun x hx => (hall x hx).2)
  exact ok _ _ (q ⟨a, nd, md, c, bt, sl, stt, f, c', oc, doc, ctv, k, vv, tm, to, td, t0, tq⟩ cc ocK PP h' tk' hco hcc lt F' N')
theorem k_ctk2 {rest : List (Addr × Obj)} {v : Value} {PP cc : Addr} {ocK : Obj} {c2 : Nat → Addr} {oc : Nat → Obj}
    (B : Below (ar dp un gd outs) base outs g) (F : Fr g L s.heap m) (N : News g L s.heap ((PP, tabL (kTab w.params c2)) :: (728, tabL [rawInt 725, rawInt 4, .ref cc]) :: rest)) (X : (pre.heap_1 w.params).In base) (TT : Top p loose mean mg mb base)
    (hf : env.frame = some L) (hkd : env.scope.kind = .function) (ap : ∀ x ∈ rest, x.1 ≠ PP ∧ x.1 ≠ 728) (hlt : @LT.lt Nat _ 728 PP) (hcc : ∀ h : Heap, h.get? cc = some ocK → CodeHd h cc PP) (hc : (cc, ocK) ∈ rest) (hoc : ∀ q ∈ cLed c2 oc, q ∈ rest) (hco : ∀ i, i < 6 → CodeOf (oc i) (kQual w.params i))
    (hdp : dp + 8 < recursionLimit) (hu : un + 50 < cLine)
    (q : ∀ (Z : KCls) h' tk', Z.c' = c2 → Z.oc = oc → Z.Ok w.params → Fr g L h' m →
      News g L h' (Z.own w.params ((mg (Str.ofString "__name__")).getD .none) v ++ [(PP, tabL (kTab w.params c2)), (728, tabL [rawInt 725, rawInt 4, .ref cc])] ++ rest) → Q (.ref Z.a) { s with heap := h', toks := tk' }) :
    wpAny (model PG w) ((ar dp un gd outs).deeper env) (call (.ref 733) [v]) Q E s := by
  have sub : ∀ x ∈ ([(PP, tabL (kTab w.params c2)), (728, tabL [rawInt 725, rawInt 4, .ref cc])] : List (Addr × Obj)), x ∈ (PP, tabL (kTab w.params c2)) :: (728, tabL [rawInt 725, rawInt 4, .ref cc]) :: rest := fun x h => List.mem_append_left rest h
  have V := free_of B F N hf sub
  have BX := pushX B F hf hkd
  have W1 := base_widest BX V
  have W2 := below_widest (as := [PP, 728]) BX
  simp only [List.map_cons, List.map_nil] at W1
  have X' := X.keeps W1
  have Vr := free_of B F N hf (pre := rest) fun x h => .tail _ (.tail _ h)
  have nin : ∀ x ∈ rest, x.1 ∉ [PP, 728] := fun x hx hm => by
    simp only [List.mem_cons, List.not_mem_nil, or_false] at hm
    rcases hm with hm | hm
    · exact (ap x hx).1 hm
    · exact (ap x hx).2 hm
  have inW : ∀ x ∈ rest, (widest s.heap (env :: outs) [PP, 728]).get? x.1 = some x.2 := fun x hx => widest_in (Vr x hx).1 (nin x hx) (Vr x hx).2.2
  refine call_by fun R ok er => c_ctk2 (dp := dp + 1) (un := un + 3) (outs := env :: outs) (cc := cc) (c2 := c2) (hcc _ (inW _ hc)) ?HQ W2 X' (TT.keeps W1) ?hV ?D (ch732 X') (by omega) (by omega) ?_
  case HQ =>
    intro i hi
    obtain ⟨vs, t, e1, e2⟩ := hco i hi
    refine ⟨c2 i, oc i, vs, t, rfl, (Vr (c2 i, oc i) (hoc _ ?_)).1, e1, e2⟩
    rcases i with _ | _ | _ | _ | _ | _ | i
    · exact List.mem_of_getElem? (i := 0) rfl
    · exact List.mem_of_getElem? (i := 1) rfl
    · exact List.mem_of_getElem? (i := 2) rfl
    · exact List.mem_of_getElem? (i := 3) rfl
    · exact List.mem_of_getElem? (i := 4) rfl
    · exact List.mem_of_getElem? (i := 5) rfl
    · exact (no6 hi).elim
  case hV => exact fun x hx => hideAll_none _ (List.mem_append_left _ (List.mem_map_of_mem (f := (·.1)) hx))
  case D =>
    refine ⟨fun b o e _ => of_hideAll _ e, (fun _ h => nomatch h), List.nodup_nil, fun x hx => ⟨(V x hx).1, hideAll_none _ (List.mem_map_of_mem (f := (·.1)) hx)⟩, ?_⟩
    simp only [List.map_cons, List.map_nil, List.pairwise_cons, List.mem_cons, List.not_mem_nil, or_false, forall_eq, false_imp_iff, implies_true, List.Pairwise.nil, and_true]
    exact hlt
  intro a nd md c bt sl stt f doc ctv k vv tm to td t0 tq h' tk' kk hall
  obtain ⟨F', N'⟩ := back (pre := [(PP, tabL (kTab w.params c2)), (728, tabL [rawInt 725, rawInt 4, .ref cc])]) (rest := rest) F N sub (fun x hx => ⟨.tail _ (.tail _ hx), nin x hx⟩) kk (fun x hx => (hall x hx).1) (fun x hx => (hall x hx).2)
  exact ok _ _ (q ⟨a, nd, md, c, bt, sl, stt, f, c2, oc, doc, ctv, k, vv, tm, to, td, t0, tq⟩ h' tk' rfl rfl hco F' N')
end
end
section
theorem fill_Ks : PySem.Challenge.rw_ij0136_01 = PySem.Challenge.rw_ij0136_01 ∧ pre.heap_1 = pre.heap_1 := by
  k_fill
  exact ⟨rfl, rfl⟩
open PySem.W.X PySem.Builtin
set_option autoImplicit false
theorem uts_hide {h h' : Heap} {as bs : List Addr} (sub : ∀ a ∈ as, a ∈ bs) (U : (hideAll h as).UpToSlots h') : (hideAll h bs).UpToSlots h' := fun b o e hd =>
  U b o (hideAll_get _ (of_hideAll _ e) fun m => by rw [hideAll_none _ (sub b m)] at e; cases e) hd
theorem refused_backS {dp un : Nat} {gd : Option (List Code)} {outs : List Env} {base g h h' : Heap} {L e : Addr} {m : Str → Option Value} {env : Env} {pre rest : List (Addr × Obj)} (B : Below (ar dp un gd outs) base outs g) (F : Fr g L h m) (N : News g L h (pre ++ rest))
    (hf : env.frame = some L) (hr : ∀ x ∈ rest, x.1 ∉ pre.map (·.1)) (X : Refused (widest h (env :: outs) (pre.map (·.1))) (env :: outs) h (pre.map (·.1)) e h') :
    ∃ h₂, Fr g L h₂ m ∧ RaisedSN base h₂ (env :: outs) e (.type "ValueError") rest h' ∧ h₂.UpToSlots h' := by
  have Vr : Free base (env :: outs) h rest := free_of B F N hf fun x hx => List.mem_append_right _ hx
  obtain ⟨_, _, R0, _⟩ := refused_back B F N hf hr X
  obtain ⟨⟨Bm, a0, h1, _, h2⟩, U⟩ := X
  have ng : ∀ b o, g.get? b = some o → b ∉ (pre ++ rest).map (·.1) := fun b o e q => by
    obtain ⟨x, hx, e'⟩ := List.mem_map.mp q
    have := (N x hx).2.2
    rw [show x.1 = b from e', e] at this; cases this
  have nL : L ∉ (pre ++ rest).map (·.1) := fun q => by
    obtain ⟨x, hx, e'⟩ := List.mem_map.mp q
    exact (N x hx).2.1 e'
  have hb : base.StaysIn Bm := fun b o q => by
    have q' := B.stays b o q
    refine h1 b o (widest_in (F.keep b o q') (fun m => ng b o q' (by rw [List.map_append]; exact List.mem_append_left _ m)) fun e' he hfe => ?_)
    rcases List.mem_cons.mp he with rfl | he
    · rw [hf] at hfe
      cases hfe
      exact absurd (Nat.lt_of_lt_of_le (Heap.lt_size q') F.above) (Nat.lt_irrefl _)
    · have := (B.frames.mem (List.mem_filterMap.mpr ⟨e', he, hfe⟩)).1
      rw [q] at this; cases this
  refine ⟨hideAll h ((pre ++ rest).map (·.1)), ⟨?_, fun b o q => hideAll_get _ (F.keep b o q) (ng b o q), F.above⟩, ⟨Bm, a0, hb, fun b o q nf => ?_, fun x hx => ⟨h1 _ _ (widest_in (Vr x hx).1 (hr x hx) (Vr x hx).2.2), hideAll_none _ (List.mem_map_of_mem (List.mem_append_right _ hx)), (Vr x hx).2.1⟩, h2⟩, uts_hide (fun a ha => by rw [List.map_append]; exact List.mem_append_left _ ha) U⟩
  · obtain ⟨oL, es, ep, hL, r⟩ := F.ns
    exact ⟨oL, es, ep, hideAll_get _ hL nL, r⟩
  · refine h1 b o (widest_in (of_hideAll _ q) (fun m => ?_) fun e' he hfe => nf (List.mem_filterMap.mpr ⟨e', he, hfe⟩))
    rw [hideAll_none _ (by rw [List.map_append]; exact List.mem_append_left _ m)] at q
    cases q
noncomputable def KeptT (outs : List Env) (as : List Addr) (h h' : Heap) : Prop :=
  (∀ b o, h.get? b = some o → b ∉ as → b ∉ outs.filterMap (·.frame) → h'.get? b = some o) ∧ (hideAll h as).UpToSlots h'
theorem KeptT.of_kept {outs : List Env} {as : List Addr} {h h' : Heap} (k : Kept as h h') : KeptT outs as h h' :=
  ⟨fun b o e n _ => k b o e n, Heap.UpToSlots.of_keeps fun b o e => k b o (of_hideAll _ e) fun m => by rw [hideAll_none _ m] at e; cases e⟩
theorem keptT_of {outs : List Env} {as : List Addr} {g₀ g' h h' : Heap} {L : Addr} {m : Str → Option Value} (hg : Kept as h g₀) (hg2 : ∀ b, b ∈ as → g₀.get? b = none) (hg3 : ∀ b o, g₀.get? b = some o → h.get? b = some o) (T : KtsTurn (outs.filterMap (·.frame)) g₀ g') (F : Fr g' L h' m) : KeptT outs as h h' := by
  refine ⟨fun b o e n nf => F.keep b o (T.other b o (hg b o e n) nf), fun b o e hd => ?_⟩
  have na : b ∉ as := fun m => by rw [hideAll_none _ m] at e; cases e
  have e1 := hg b o (of_hideAll _ e) na
  by_cases hm : b ∈ outs.filterMap (·.frame)
  · obtain ⟨sl, hs⟩ := T.frame b o e1 hm
    exact ⟨sl, F.keep _ _ hs⟩
  · exact ⟨o.slots, F.keep _ _ (T.other b o e1 hm)⟩
theorem ktsDicts_hide {outs : List Env} {h : Heap} {as : List Addr} (D : KtsDicts (outs.filterMap (·.frame)) h) (n : ∀ a ∈ as, a ∉ outs.filterMap (·.frame)) : KtsDicts (outs.filterMap (·.frame)) (hideAll h as) := fun b hb => by
  obtain ⟨o, es, k, ho, hd⟩ := D b hb
  exact ⟨o, es, k, hideAll_get _ ho fun m => n b m hb, hd⟩
theorem enterG {w : World} {s : Shared} {base : Heap} {outs : List Env} {K : Frag} {p : Program} {loose : List Str} {mean : ExcName → Option Value} {mg mb : Str → Option Value} {dp un : Nat} {gd : Option (List Code)} {R : Result → Shared → Prop} {name qual : Str} {params : Arguments} {body : List Stmt} {scope : Scope} {dV kV doc pm cdv ct oc : Value} {an od : Option Addr} {osl : Array (Option Value)} {f : Addr} {args : Args} {binds : List (Str × Value)} {pre : List (Addr × Obj)}
    (B : Below (ar dp un gd outs) base outs s.heap) (X : K.In base) (T : Top p loose mean mg mb base) (V : Free base outs s.heap pre)
    (ho : K.lookup f = some ⟨oc, od, .func (fnOf name qual params body scope dV kV doc pm an cdv ct), osl⟩) (hcd : codeIn K cdv qual = true) (hroom : dp < recursionLimit)
    (hbind : BindsTo s (fnOf name qual params body scope dV kV doc pm an cdv ct) args binds) (hloc : ∀ y ∈ binds, scope.names.lookup y.1 = some .local)
    (h : ∀ g L' h₁, g = hideAll s.heap (pre.map (·.1)) → Kept (pre.map (·.1)) s.heap g → Fr g L' h₁ (fun y => binds.reverse.lookup y) → News g L' h₁ pre → Below (ar dp un gd outs) base outs g → K.In g → Top p loose mean mg mb g →
      wpAny (model PG w) ((ar dp un gd outs).deeper (envOf qual scope L' f cdv)) (execs body (envOf qual scope L' f cdv))
        (fun fl s' => EndR R (match fl with | .ret v => v | _ => .none) s')
        (fun e s' => wpAny (model PG w) ((ar dp un gd outs).deeper (envOf qual scope L' f cdv)) (leaving (envOf qual scope L' f cdv) e) (fun _ s'' => R (.error e) s'') (fun e' s'' => R (.error e') s'') s')
        { s with heap := h₁, toks := s.toks + binds.length })
    (hco : scope.isCoroutine = false) (hgen : scope.isGenerator = false) (hk : scope.kind = .function)
    (hcell : ∀ x ∈ scope.names, x.2 ≠ .cell) : codeAny (model PG w) (ar dp un gd outs) (.call (.ref f) args) R s := by
  have BG := hide_below B V
  have XS := X.keeps B.stays
  refine codeAny_call_def (fd := fnOf name qual params body scope dV kV doc pm an cdv ct) (body := body) (binds := binds) hroom (XS _ _ ho) rfl (T.nolimit.keeps B.stays) (codeRec_of XS hcd) rfl hbind hcell hloc (fun h₁ hns hk₁ => ?_) hco hgen hk
  exact h _ s.heap.objs.size h₁ rfl (fun b o e n => hideAll_get _ e n) ⟨hns, fun b o e => hk₁ b o (of_hideAll _ e), Nat.le_of_eq (hideAll_size _ _)⟩
    (fun x hx => ⟨hk₁ _ _ (V x hx).1, Nat.ne_of_lt (Heap.lt_size (V x hx).1), hideAll_none _ (List.mem_map_of_mem hx)⟩) BG (X.keeps BG.stays) (T.keeps BG.stays)
structure KeysC (P : Params) (vn : Value) (Z : KCls) (led : List (Addr × Obj)) (x y : Addr) (r : Option Int) : Prop where
  d : ∃ (dx dy : Addr) (la lb ka kb : List Nat) (na nb : Bool) (ta tb : Tok), r = cmpR ka na kb nb ∧ la.length < 400000 ∧ lb.length < 400000 ∧ Reads la ka na ∧ Reads lb kb nb ∧ (x, kInst Z.a dx (.str (tx la) ta)) ∈ led ∧ (dx, emptyDict) ∈ led ∧ (y, kInst Z.a dy (.str (tx lb) tb)) ∈ led ∧ (dy, emptyDict) ∈ led
  z : ∀ q ∈ Z.led P vn (.ref 773), q ∈ led
  k : Z.Ok P
theorem KeysC.more {P : Params} {vn : Value} {Z : KCls} {led led' : List (Addr × Obj)} {x y : Addr} {r : Option Int} (C : KeysC P vn Z led x y r) (h : ∀ q ∈ led, q ∈ led') : KeysC P vn Z led' x y r := by
  obtain ⟨⟨dx, dy, la, lb, ka, kb, na, nb, ta, tb, a1, a2, a3, a4, a5, a6, a7, a8, a9⟩, z, k⟩ := C
  exact ⟨⟨dx, dy, la, lb, ka, kb, na, nb, ta, tb, a1, a2, a3, a4, a5, h _ a6, h _ a7, h _ a8, h _ a9⟩, fun q hq => h q (z q hq), k⟩
section
variable {base g : Heap} {L : Addr} {m : Str → Option Value} {env : Env} {s : Shared} {E : Value → Shared → Prop} {Q : Value → Shared → Prop} {led : List (Addr × Obj)} {vn : Value} {Z : KCls} {x y : Addr} {r : Option Int}
theorem kk_lt
    (C : KeysC w.params vn Z led x y r) (B : Below (ar dp un gd outs) base outs g) (F : Fr g L s.heap m) (N : News g L s.heap led) (X : (pre.heap_1 w.params).In base) (TT : Top p loose mean mg mb base)
    (hf : env.frame = some L) (hkd : env.scope.kind = .function) (hdp : dp + 28 < recursionLimit) (hu : un + 150 < cLine)
    (q : ∀ n h' tk', r = some n → Fr g L h' m → News g L h' led → Q (.bool (decide (n < 0))) { s with heap := h', toks := tk' })
    (bad : r = none → ∀ h' tk' e, Refused (widest s.heap (env :: outs) []) (env :: outs) s.heap [] e h' → E (.ref e) { s with heap := h', toks := tk' }) :
    wpAny (model PG w) ((ar dp un gd outs).deeper env) (compareOp .Lt (.ref x) (.ref y)) Q E s := by
  obtain ⟨⟨dx, dy, la, lb, ka, kb, na, nb, ta, tb, a1, a2, a3, a4, a5, a6, a7, a8, a9⟩, hZ, hk⟩ := C
  exact cmp_ofLt (k_op (opB := fun n => decide (n < 0)) (by omega) (by omega) (kshape1 w.params) (k_find (stand_led N hZ)).1 (fun A E s Q n tk tz h => PySem.P.lt_int h) a1 a2 a3 a4 a5 B F N X TT hZ hk a6 a7 a8 a9 hf hkd hdp hu q bad)
theorem kk_gt
    (C : KeysC w.params vn Z led x y r) (B : Below (ar dp un gd outs) base outs g) (F : Fr g L s.heap m) (N : News g L s.heap led) (X : (pre.heap_1 w.params).In base) (TT : Top p loose mean mg mb base)
    (hf : env.frame = some L) (hkd : env.scope.kind = .function) (hdp : dp + 28 < recursionLimit) (hu : un + 150 < cLine)
    (q : ∀ n h' tk', r = some n → Fr g L h' m → News g L h' led → Q (.bool (decide (n > 0))) { s with heap := h', toks := tk' })
    (bad : r = none → ∀ h' tk' e, Refused (widest s.heap (env :: outs) []) (env :: outs) s.heap [] e h' → E (.ref e) { s with heap := h', toks := tk' }) :
    wpAny (model PG w) ((ar dp un gd outs).deeper env) (compareOp .Gt (.ref x) (.ref y)) Q E s := by
  obtain ⟨⟨dx, dy, la, lb, ka, kb, na, nb, ta, tb, a1, a2, a3, a4, a5, a6, a7, a8, a9⟩, hZ, hk⟩ := C
  exact cmp_ofGt (k_op (opB := fun n => decide (n > 0)) (by omega) (by omega) (kshape2 w.params) (k_find (stand_led N hZ)).2.1 (fun A E s Q n tk tz h => PySem.P.gt_int h) a1 a2 a3 a4 a5 B F N X TT hZ hk a6 a7 a8 a9 hf hkd hdp hu q bad)
theorem kk_eq
    (C : KeysC w.params vn Z led x y r) (B : Below (ar dp un gd outs) base outs g) (F : Fr g L s.heap m) (N : News g L s.heap led) (X : (pre.heap_1 w.params).In base) (TT : Top p loose mean mg mb base)
    (hf : env.frame = some L) (hkd : env.scope.kind = .function) (hdp : dp + 28 < recursionLimit) (hu : un + 150 < cLine)
    (q : ∀ n h' tk', r = some n → Fr g L h' m → News g L h' led → Q (.bool (n == 0)) { s with heap := h', toks := tk' })
    (bad : r = none → ∀ h' tk' e, Refused (widest s.heap (env :: outs) []) (env :: outs) s.heap [] e h' → E (.ref e) { s with heap := h', toks := tk' }) :
    wpAny (model PG w) ((ar dp un gd outs).deeper env) (compareOp .Eq (.ref x) (.ref y)) Q E s := by
  obtain ⟨⟨dx, dy, la, lb, ka, kb, na, nb, ta, tb, a1, a2, a3, a4, a5, a6, a7, a8, a9⟩, hZ, hk⟩ := C
  exact cmp_ofEq (k_op (opB := fun n => (n == 0)) (by omega) (by omega) (kshape3 w.params) (k_find (stand_led N hZ)).2.2.1 (fun A E s Q n tk tz h => PySem.P.eq_int h) a1 a2 a3 a4 a5 B F N X TT hZ hk a6 a7 a8 a9 hf hkd hdp hu q bad)
theorem kk_le
    (C : KeysC w.params vn Z led x y r) (B : Below (ar dp un gd outs) base outs g) (F : Fr g L s.heap m) (N : News g L s.heap led) (X : (pre.heap_1 w.params).In base) (TT : Top p loose mean mg mb base)
    (hf : env.frame = some L) (hkd : env.scope.kind = .function) (hdp : dp + 28 < recursionLimit) (hu : un + 150 < cLine)
    (q : ∀ n h' tk', r = some n → Fr g L h' m → News g L h' led → Q (.bool (decide (n ≤ 0))) { s with heap := h', toks := tk' })
    (bad : r = none → ∀ h' tk' e, Refused (widest s.heap (env :: outs) []) (env :: outs) s.heap [] e h' → E (.ref e) { s with heap := h', toks := tk' }) :
    wpAny (model PG w) ((ar dp un gd outs).deeper env) (compareOp .LtE (.ref x) (.ref y)) Q E s := by
  obtain ⟨⟨dx, dy, la, lb, ka, kb, na, nb, ta, tb, a1, a2, a3, a4, a5, a6, a7, a8, a9⟩, hZ, hk⟩ := C
  exact cmp_ofLtE (k_op (opB := fun n => decide (n ≤ 0)) (by omega) (by omega) (kshape4 w.params) (k_find (stand_led N hZ)).2.2.2.1 (fun A E s Q n tk tz h => PySem.P.le_int h) a1 a2 a3 a4 a5 B F N X TT hZ hk a6 a7 a8 a9 hf hkd hdp hu q bad)
theorem kk_ge
    (C : KeysC w.params vn Z led x y r) (B : Below (ar dp un gd outs) base outs g) (F : Fr g L s.heap m) (N : News g L s.heap led) (X : (pre.heap_1 w.params).In base) (TT : Top p loose mean mg mb base)
    (hf : env.frame = some L) (hkd : env.scope.kind = .function) (hdp : dp + 28 < recursionLimit) (hu : un + 150 < cLine)
    (q : ∀ n h' tk', r = some n → Fr g L h' m → News g L h' led → Q (.bool (decide (n ≥ 0))) { s with heap := h', toks := tk' })
    (bad : r = none → ∀ h' tk' e, Refused (widest s.heap (env :: outs) []) (env :: outs) s.heap [] e h' → E (.ref e) { s with heap := h', toks := tk' }) :
    wpAny (model PG w) ((ar dp un gd outs).deeper env) (compareOp .GtE (.ref x) (.ref y)) Q E s := by
  obtain ⟨⟨dx, dy, la, lb, ka, kb, na, nb, ta, tb, a1, a2, a3, a4, a5, a6, a7, a8, a9⟩, hZ, hk⟩ := C
  exact cmp_ofGtE (k_op (opB := fun n => decide (n ≥ 0)) (by omega) (by omega) (kshape5 w.params) (k_find (stand_led N hZ)).2.2.2.2 (fun A E s Q n tk tz h => PySem.P.ge_int h) a1 a2 a3 a4 a5 B F N X TT hZ hk a6 a7 a8 a9 hf hkd hdp hu q bad)
theorem kk_ne
    (C : KeysC w.params vn Z led x y r) (B : Below (ar dp un gd outs) base outs g) (F : Fr g L s.heap m) (N : News g L s.heap led) (X : (pre.heap_1 w.params).In base) (TT : Top p loose mean mg mb base)
    (hf : env.frame = some L) (hkd : env.scope.kind = .function) (hdp : dp + 28 < recursionLimit) (hu : un + 150 < cLine)
    (q : ∀ n h' tk', r = some n → Fr g L h' m → News g L h' led → Q (.bool (!(n == 0))) { s with heap := h', toks := tk' })
    (bad : r = none → ∀ h' tk' e, Refused (widest s.heap (env :: outs) []) (env :: outs) s.heap [] e h' → E (.ref e) { s with heap := h', toks := tk' }) :
    wpAny (model PG w) ((ar dp un gd outs).deeper env) (compareOp .NotEq (.ref x) (.ref y)) Q E s := by
  obtain ⟨⟨dx, dy, la, lb, ka, kb, na, nb, ta, tb, a1, a2, a3, a4, a5, a6, a7, a8, a9⟩, hZ, hk⟩ := C
  exact k_ne a1 a2 a3 a4 a5 B F N X TT hZ hk a6 a7 a8 a9 hf hkd hdp hu q bad
end
theorem caught_r {base g h : Heap} {L a e : Addr} {m : Str → Option Value} {name : Str} {scope : Scope} {cd : Value} {s' : Shared} {E : Value → Shared → Prop} {led pl : List (Addr × Obj)} {as : List Addr}
    {b₀ : Stmt} {suite : List Stmt} {pos np : Pos} {rest : List ExceptHandler} {Q : Flow → Shared → Prop}
    (X9 : Refused (widest h (envOf name scope L a cd :: outs) as) (envOf name scope L a cd :: outs) h as e s'.heap) (has : as = pl.map (·.1)) (B : Below (ar dp un gd outs) base outs g) (F : Fr g L h m) (N : News g L h (pl ++ led)) (ap : ∀ x ∈ led, x.1 ∉ pl.map (·.1)) (D : KtsDicts (outs.filterMap (·.frame)) g)
    (X : (pre.heap_1 w.params).In base) (TT : Top p loose mean mg mb base) (ex : nsIn (pre.heap_1 w.params) mainGlobals (Str.ofString "ValueError") = some none)
    (k : ∀ h'' g', KtsTurn (outs.filterMap (·.frame)) g g' → Fr g' L h'' m → News g' L h'' led → Below (ar dp un gd outs) base outs g' → (pre.heap_1 w.params).In g' → Top p loose mean mg mb g' →
      wpAny (model PG w) (((ar dp un gd outs).deeper (envOf name scope L a cd)).mark (some (.ref e))) (execs (b₀ :: suite) (envOf name scope L a cd)) Q E { s' with heap := h'' })
    (hk : scope.kind = .function := by rfl) (hx : (envOf name scope L a cd).kindOf (Str.ofString "ValueError") = some .globalImplicit := by rfl)
    (hE : PassesOwnAt (model PG w) (((ar dp un gd outs).deeper (envOf name scope L a cd)).mark (some (.ref e))) ((ar dp un gd outs).deeper (envOf name scope L a cd)) (envOf name scope L a cd) E := by passes_own) :
    wpAny (model PG w) ((ar dp un gd outs).deeper (envOf name scope L a cd)) (noteFrame (.ref e) (envOf name scope L a cd))
      (fun _ s₂ => wpAny (model PG w) ((ar dp un gd outs).deeper (envOf name scope L a cd)) (setFlight (.ref e) none) (fun _ s₃ =>
        wpAny (model PG w) ((ar dp un gd outs).deeper (envOf name scope L a cd)) (handleBy (.ref e) (envOf name scope L a cd) (.ExceptHandler (some (.Name (Str.ofString "ValueError") np)) none (b₀ :: suite) pos :: rest)) Q E s₃) E s₂) E s' := by
  subst has
  obtain ⟨h₂, F₂, R₂, U₂⟩ := refused_backS (pre := pl) (rest := led) B F N rfl ap X9
  exact caught_SN0 (T' := "ValueError") R₂ F₂ B U₂ X TT D KtsTurn.refl ex PyProof.Rows.Boot.«ValueError» (by decide +kernel) PySem.F.isExc_ValueError PySem.F.notTuple_ValueError (by rw [isSubtype_type]; kernel_rfl) (fun h'' g' T F' N' B' X' T' _ => k h'' g' T F' N' B' X' T') hk hx (by decide) hE
theorem kept_ro {base g h h' : Heap} {outs : List Env} {L : Addr} {m : Str → Option Value} {ro led : List (Addr × Obj)} (G : Kept (ro.map (·.1)) h g) (F : Fr g L h' m) (N : News g L h' led) (sub : ∀ q ∈ ro, q ∈ led) (V : Free base outs h ro) : Kept [] h h' := fun b o e _ => by
  by_cases hm : b ∈ ro.map (·.1)
  · obtain ⟨x, hx, rfl⟩ := List.mem_map.mp hm
    rw [(V x hx).1] at e
    cases e
    exact (N x (sub x hx)).1
  · exact F.keep _ _ (G b o e hm)
theorem fresh_ro {g h h' : Heap} {L l : Addr} {o : Obj} {ro led : List (Addr × Obj)} (G : Kept (ro.map (·.1)) h g) (N : News g L h' led) (hl : (l, o) ∈ led) (lt : ∀ p ∈ ro, @LT.lt Nat _ p.1 l) : h.get? l = none := by
  cases q : h.get? l with
  | none => rfl
  | some o' =>
    have := G l o' q fun hm => by
      obtain ⟨x, hx, e⟩ := List.mem_map.mp hm
      exact absurd (lt x hx) (by rw [e]; exact Nat.lt_irrefl _)
    rw [(N _ hl).2.2] at this
    cases this
theorem keptT_ro {base g g' h h' : Heap} {outs : List Env} {L : Addr} {m : Str → Option Value} {ro led : List (Addr × Obj)} (G : Kept (ro.map (·.1)) h g) (T : KtsTurn (outs.filterMap (·.frame)) g g') (F : Fr g' L h' m) (N : News g' L h' led) (sub : ∀ q ∈ ro, q ∈ led) (V : Free base outs h ro) : KeptT outs [] h h' := by
  refine ⟨fun b o e _ nf => ?_, fun b o e hd => ?_⟩
  · by_cases hm : b ∈ ro.map (·.1)
    · obtain ⟨x, hx, rfl⟩ := List.mem_map.mp hm
      rw [(V x hx).1] at e
      cases e
      exact (N x (sub x hx)).1
    · exact F.keep _ _ (T.other b o (G b o e hm) nf)
  · have e := of_hideAll _ e
    by_cases hm : b ∈ ro.map (·.1)
    · obtain ⟨x, hx, rfl⟩ := List.mem_map.mp hm
      rw [(V x hx).1] at e
      cases e
      exact ⟨_, (N x (sub x hx)).1⟩
    · by_cases hf : b ∈ outs.filterMap (·.frame)
      · obtain ⟨sl, hs⟩ := T.frame b o (G b o e hm) hf
        exact ⟨sl, F.keep _ _ hs⟩
      · exact ⟨_, F.keep _ _ (T.other b o (G b o e hm) hf)⟩
end
section
theorem fill_Ak : PySem.Challenge.rw_ij0136_01 = PySem.Challenge.rw_ij0136_01 ∧ pre.heap_1 = pre.heap_1 := by
  k_with_none
  k_with "my rel" => (repeat' (first | (k_unfold; (try dsimp only)) | walk1 | walk_at "my next" | (dsimp only; walk1) | (leave1; try dsimp only) | fail "no step"))
  k_with "my room" => (((try simp only [depth_mark, depth_under_make, depth_under_kw, depth_in1, depth_deeper, depth_caller]); (try dsimp only [ar]); omega))
  k_with "my units" => ((have hcL9 := cLine_is; (try simp only [units_in1, units_deeper, Around.mark_units, units_caller]); (try dsimp only [ar]); omega))
  k_with "my unf" => ((refine' enter ?k1 ?k2 ?k3 ?k4 ?k6 ?k7 ?k8 ?k9 ?kB ?_ ?c2 ?c3 ?c4 ?c5; (case k1 => assumption); (case k2 => assumption); (case k3 => assumption); (case k4 => assumption); (case k6 => k_is); (case k7 => k_is); (case k8 => k_room); (case k9 => first | exact BindsTo.of_eq rfl | exact binds_K (Frag.In.keeps (by assumption) (Below.stays (by assumption))) rfl (by k_is) rfl rfl rfl); (case c5 => decide); (case kB => exact locs rfl); (case c2 => exact rfl); (case c3 => exact rfl); (case c4 => exact rfl); k_whole; intro g' L' h' G' F' N' B' X' T'; (try simp only [List.map_cons, List.map_nil] at G'); (try dsimp only); (try k_fold)))
  k_with "subscriptTail Attribute Name Slice str ref" => (((with_reducible rename Fr _ _ _ _ => F'); (with_reducible rename News _ _ _ _ => N'); (refine slice_strN_ss (hsz := ?hsz) (s := ⟨_, _, _, _, _⟩) F' N' ?_); (case hsz => (rw [sizeLine_eq]; omega)); intro h' t' tk' F' N'; (try k_sweep)))
  k_with "subscriptTail BinOp Subscript Add Constant Slice str ref" => (((with_reducible rename Fr _ _ _ _ => F'); (with_reducible rename News _ _ _ _ => N'); (refine slice_strN_ns (hsz := ?hsz) (s := ⟨_, _, _, _, _⟩) F' N' ?_); (case hsz => exact size_sl (by with_reducible assumption)); intro h' t' tk' F' N'; (try k_sweep)))
  k_with "call builtin:str.find" => (refine find4 ?_)
  k_with "my apart" => (repeat' (first | (refine List.forall_mem_cons.2 ⟨⟨?_, ?_⟩, ?_⟩) | exact List.forall_mem_nil _ | with_reducible assumption | (apply Ne.symm; with_reducible assumption)))
  k_with "binaryOp Add str str" => (((refine add_str (hsz := size_slc (by with_reducible assumption)) ?_); intro _ _))
  k_with "execs cons" => (((try dsimp only); first | (with_reducible refine nx_last ?_) | ((with_reducible refine nx_cons ?_); intro q' nx')))
  k_with "execs nil" => (with_reducible refine wpAny_execs_nil ?_)
  k_with "my next" => (with_reducible first | refine trq_b ?_ | refine ifq_t ?_ | refine ifq_f ?_ | refine ifq ?_ | refine trq ?_ | refine nx_next (by assumption) ?_ | refine nx_ret (by assumption) ?_ | refine nx_brk (by assumption) ?_ | refine nx_cont (by assumption) ?_)
  k_with "eval Constant int" => (((with_reducible refine int_T ?_); intro t' tk'))
  k_with "eval Constant str" => (((with_reducible refine str_T ?_); intro t' tk'))
  k_with "my nth" => (with_reducible first | exact nth_0 | exact nth_1 | exact nth_2 | exact nth_3 | exact nth_4 | exact nth_5 | exact nth_6)
  k_with "my ne" => (first | with_reducible assumption | exact Ne.symm (by with_reducible assumption) | k_ne)
  k_with "my allne" => (first | with_reducible exact all_nil | (refine' all_cons ?a ?b; (case a => walk_at "my ne"); (case b => walk_at "my allne")))
  k_with "my upd" => (first | (refine' upd_head ?a; (case a => walk_at "my allne")) | (refine' upd_tail ?a ?b; (case a => walk_at "my ne"); (case b => walk_at "my upd")))
  k_with "eval Name" => ((k_here; (with_reducible first | show wpAny _ _ (PySem.eval _ (envOf _ _ _ _ _)) _ _ _ | show wpAny _ _ (PySem.eval _ (envX _ _ _ _ _ _)) _ _ _); k_dflt (refine' name_T ?F ?v ?o ?_; (case F => k_asm); (case o => exact rfl); (case v => rfl); k_whole)))
  k_with "eval Attribute Name" => ((k_here; (with_reducible first | show wpAny _ _ (PySem.eval _ (envOf _ _ _ _ _)) _ _ _ | show wpAny _ _ (PySem.eval _ (envX _ _ _ _ _ _)) _ _ _); k_dflt (refine' own_T ?F ?x ?lo ?X ?N ?h1 ?h2 ?ok ?ho ?hl ?hv ?_; (case F => k_asm); (case lo => exact rfl); (case x => exact rfl); (case X => k_asm); (case N => k_asm); (case h1 => walk_at "my nth"); (case h2 => walk_at "my nth"); (case ok => (intro P9; kernel_rfl)); (case ho => first | exact rfl | walk_at "my isD"); (case hl => first | k_get | walk_at "my getl"); (case hv => first | exact rfl | k_handed); k_whole); intro tk'))
  k_with "getAttr ref" => ((k_here; k_dflt (refine' get_T ?F ?X ?N ?h1 ?h2 ?ok ?ho ?hl ?hv ?_; (case F => k_asm); (case X => k_asm); (case N => k_asm); (case h1 => walk_at "my nth"); (case h2 => walk_at "my nth"); (case ok => (intro P9; kernel_rfl)); (case ho => first | exact rfl | walk_at "my isD"); (case hl => first | k_get | walk_at "my getl"); (case hv => first | exact rfl | k_handed); k_whole); intro tk'))
  k_with "storeName" => ((k_here; (with_reducible first | show wpAny _ _ (PySem.storeName (envOf _ _ _ _ _)  _ _) _ _ _ | show wpAny _ _ (PySem.storeName (envX _ _ _ _ _ _)  _ _) _ _ _); k_dflt (refine' store_T ?F ?N ?o ?_; (case F => k_asm); (case N => k_asm); (case o => exact rfl); k_whole); intro h' tk' F' N'; (try k_sweep)))
  k_with "setAttr ref" => ((k_here; k_dflt (refine' set_T ?F ?X ?N ?h1 ?h2 ?ok ?e ?U ?_; (case F => k_asm); (case X => k_asm); (case N => k_asm); (case h1 => walk_at "my nth"); (case h2 => walk_at "my nth"); (case ok => (intro P9; kernel_rfl)); (case e => walk_at "my puts"); (case U => walk_at "my upd"); k_whole); intro h' tk' F' N'; (try k_sweep)))
  k_with "ite" => (first | with_reducible refine ite_tt ?_ | with_reducible refine ite_ff ?_)
  k_with "my ofb" => (with_reducible first | exact Nat.ne_of_beq_eq_false rfl | exact off1 | exact ffo1 | exact off2 | exact ffo2 | exact off3 | exact ffo3 | exact off4 | exact ffo4 | exact off5 | exact ffo5 | exact off6 | exact ffo6)
  k_with "my off" => (with_reducible first | walk_at "my ofb" | (refine strip ?_; first | walk_at "my ofb" | (refine strip ?_; first | walk_at "my ofb" | (refine strip ?_; first | walk_at "my ofb" | (refine strip ?_; first | walk_at "my ofb" | (refine strip ?_; walk_at "my ofb"))))))
  k_with "my omega" => (with_reducible first | (show _ < _; first | exact room (by assumption) rfl | exact room0 (by assumption) | exact room2 (by assumption) rfl | exact room3 (by assumption) rfl | exact room4 (by assumption) rfl | exact room5 (by assumption) rfl | exact lt_ble rfl | exact om_i63' (by assumption) rfl | exact om_i63 (by assumption) rfl | exact Nat.succ_lt_succ (by assumption) | exact Nat.lt_of_succ_lt_succ (by assumption) | exact Int.ofNat_lt.2 (by assumption) | exact Int.ofNat_lt.1 (by assumption)) | (show _ ≤ _; first | exact Nat.le_of_ble_eq_true rfl | exact Nat.le_refl _ | exact Nat.le_succ _ | exact Nat.le_add_right _ _ | exact om_ltle (by assumption) rfl | exact om_le (by assumption) rfl | exact Nat.le_of_lt (by assumption) | exact Int.ofNat_le.2 (by assumption) | exact Int.natCast_nonneg _ | exact Int.ofNat_le.1 (by assumption) | exact om_addl rfl) | (show _ ≠ _; first | walk_at "my off" | exact om_nne (by assumption)) | (show _ = _; first | exact om_nn (by assumption)) | (show False; first | exact no3 (by assumption) | exact no4 (by assumption) | exact no5 (by assumption) | exact no6 (by assumption)) | fail "no")
  k_with "my cmp" => (((case F => k_asm); (case o => exact rfl); (case v => rfl)))
  k_with "isTrue Compare" => (first | (k_here; (with_reducible first | show wpAny _ _ (isTrue _ (envOf _ _ _ _ _) _) _ _ _ | show wpAny _ _ (isTrue _ (envX _ _ _ _ _ _) _) _ _ _); first | ((with_reducible show wpAny _ _ (isTrue (.Compare (.Name _ _) [_] [.Constant (.str _) _ _] _) _ _) _ _ _); k_dflt (refine' cmp_s ?F ?v ?o ?_ ?m; walk_at "my cmp"; (case m => with_unfolding_all rfl); k_whole; intro t' tk')) | ((with_reducible show wpAny _ _ (isTrue (.Compare (.Name _ _) [_] [.Constant (.int _) _ _] _) _ _) _ _ _); k_dflt (refine' cmp_i ?F ?v ?o ?_ ?m; walk_at "my cmp"; (case m => with_unfolding_all rfl); k_whole; intro t' tk')) | ((with_reducible show wpAny _ _ (isTrue (.Compare (.Name _ _) [_] [.Constant .none _ _] _) _ _) _ _ _); k_dflt (refine' cmp_n ?F ?v ?o ?_ ?m; walk_at "my cmp"; (case m => with_unfolding_all rfl); k_whole)) | ((with_reducible show wpAny _ _ (isTrue (.Compare (.Name _ _) [_] [.Name _ _] _) _ _) _ _ _); k_dflt (refine' cmp_nn ?F ?v ?o ?u ?p ?_ ?m; walk_at "my cmp"; (case p => exact rfl); (case u => rfl); (case m => with_unfolding_all rfl); k_whole))) | with_reducible refine cmp_1 ?_)
  k_with "exec If" => (with_reducible refine if_T ?_)
  k_with "my puts" => (first | with_reducible exact lex_state | with_reducible exact lex_token | with_reducible exact lex_line | with_reducible exact sio_pos)
  k_with "ite" => (first | with_reducible refine ite_tt ?_ | with_reducible refine ite_ff ?_)
  k_with "compareOp Lt ref" => (((with_reducible rename Fr _ _ _ _ => F'); (with_reducible rename News _ _ _ _ => N'); (refine' kk_lt ?C ?B F' N' ?X ?T rfl rfl ?dp ?un ?_ ?_; (case C => with_reducible assumption); (case B => with_reducible assumption); (case X => with_reducible assumption); (case T => with_reducible assumption); (case dp => omega); (case un => omega)); all_goals (first | intro n' h' tk' e1' F' N' | intro e1' h' tk' e' X9')))
  k_with "compareOp Gt ref" => (((with_reducible rename Fr _ _ _ _ => F'); (with_reducible rename News _ _ _ _ => N'); (refine' kk_gt ?C ?B F' N' ?X ?T rfl rfl ?dp ?un ?_ ?_; (case C => with_reducible assumption); (case B => with_reducible assumption); (case X => with_reducible assumption); (case T => with_reducible assumption); (case dp => omega); (case un => omega)); all_goals (first | intro n' h' tk' e1' F' N' | intro e1' h' tk' e' X9')))
  k_with "compareOp Eq ref" => (((with_reducible rename Fr _ _ _ _ => F'); (with_reducible rename News _ _ _ _ => N'); (refine' kk_eq ?C ?B F' N' ?X ?T rfl rfl ?dp ?un ?_ ?_; (case C => with_reducible assumption); (case B => with_reducible assumption); (case X => with_reducible assumption); (case T => with_reducible assumption); (case dp => omega); (case un => omega)); all_goals (first | intro n' h' tk' e1' F' N' | intro e1' h' tk' e' X9')))
  k_with "compareOp LtE ref" => (((with_reducible rename Fr _ _ _ _ => F'); (with_reducible rename News _ _ _ _ => N'); (refine' kk_le ?C ?B F' N' ?X ?T rfl rfl ?dp ?un ?_ ?_; (case C => with_reducible assumption); (case B => with_reducible assumption); (case X => with_reducible assumption); (case T => with_reducible assumption); (case dp => omega); (case un => omega)); all_goals (first | intro n' h' tk' e1' F' N' | intro e1' h' tk' e' X9')))
  k_with "compareOp GtE ref" => (((with_reducible rename Fr _ _ _ _ => F'); (with_reducible rename News _ _ _ _ => N'); (refine' kk_ge ?C ?B F' N' ?X ?T rfl rfl ?dp ?un ?_ ?_; (case C => with_reducible assumption); (case B => with_reducible assumption); (case X => with_reducible assumption); (case T => with_reducible assumption); (case dp => omega); (case un => omega)); all_goals (first | intro n' h' tk' e1' F' N' | intro e1' h' tk' e' X9')))
  k_with "compareOp NotEq ref" => (((with_reducible rename Fr _ _ _ _ => F'); (with_reducible rename News _ _ _ _ => N'); (refine' kk_ne ?C ?B F' N' ?X ?T rfl rfl ?dp ?un ?_ ?_; (case C => with_reducible assumption); (case B => with_reducible assumption); (case X => with_reducible assumption); (case T => with_reducible assumption); (case dp => omega); (case un => omega)); all_goals (first | intro n' h' tk' e1' F' N' | intro e1' h' tk' e' X9')))
  k_with "ktr_unfG" => ((refine' enterG ?k1 ?k2 ?k3 ?k4 ?k6 ?k7 ?k8 ?k9 ?kB ?_ ?c2 ?c3 ?c4 ?c5; (case k1 => assumption); (case k2 => assumption); (case k3 => assumption); (case k4 => assumption); (case k6 => k_is); (case k7 => k_is); (case k8 => k_room); (case k9 => first | exact BindsTo.of_eq rfl | exact binds_K (Frag.In.keeps (by assumption) (Below.stays (by assumption))) rfl (by k_is) rfl rfl rfl); (case c5 => decide); (case kB => exact locs rfl); (case c2 => exact rfl); (case c3 => exact rfl); (case c4 => exact rfl); k_whole; intro g' L' h' GE' G' F' N' B' X' T'; (try simp only [List.map_cons, List.map_nil] at G'); (try dsimp only); (try k_fold)))
  k_with "noteFrame ref" => (((with_reducible rename Refused _ _ _ _ _ _ => X9'); (with_reducible rename Fr _ _ _ _ => F'); (with_reducible rename News _ _ _ _ => N'); k_dflt (refine' caught_r (pl := []) X9' rfl ?B F' N' ?ap ?D ?X ?T ?ex ?_; (case B => with_reducible assumption); (case ap => exact fun _ _ => List.not_mem_nil); (case D => with_reducible assumption); (case X => with_reducible assumption); (case T => with_reducible assumption); (case ex => k_is)); intro h' g' T9' F' N' B' X' T'))
  k_fill
  exact ⟨rfl, rfl⟩
open PySem.W.X PySem.Builtin
noncomputable def askV (way n : Int) : List Value := if way = 0 then [.bool (decide (n < 0)), .bool (n == 0), .bool (decide (n ≥ 0))] else [.bool (decide (n ≤ 0)), .bool (!(n == 0)), .bool (decide (n > 0))]
theorem c_askK {base : Heap} {s : Shared} {R : Result → Shared → Prop} {vn : Value} {Z : KCls} {ro : List (Addr × Obj)} {x y : Addr} {r : Option Int} {way : Int} {tw : Tok}
    (C : KeysC w.params vn Z ro x y r) (hway : way = 0 ∨ way = 1) (hD : KtsDicts (outs.filterMap (·.frame)) s.heap)
    (B : Below (ar dp un gd outs) base outs s.heap) (X : (pre.heap_1 w.params).In base) (TT : Top p loose mean mg mb base)
    (V : Free base outs s.heap ro) (hdp : dp + 40 < recursionLimit) (hu : un + 200 < cLine)
    (ret : ∀ n h' tk' l, r = some n → Kept [] s.heap h' → h'.get? l = some { cls := .type "list", data := .seq (askV way n).toArray } → s.heap.get? l = none → R (.ok (.ret (.ref l))) { s with heap := h', toks := tk' })
    (bad : r = none → ∀ h' tk' tk2, KeptT outs [] s.heap h' → R (.ok (.ret (.str (Str.ofString "refused") tk2))) { s with heap := h', toks := tk' }) :
    codeAny (model PG w) (ar dp un gd outs) (.call (.ref 780) ⟨[.ref x, .ref y, .int way tw], []⟩) R s := by
  rcases hway with rfl | rfl
  · k_dflt walk_at "ktr_unfG"
    with_reducible rename _ = hideAll _ _ => GE
    have D9 : KtsDicts (outs.filterMap (·.frame)) _ := GE ▸ ktsDicts_hide hD fun a ha hf => by
      obtain ⟨x, hx, rfl⟩ := List.mem_map.mp ha
      obtain ⟨env, he, hf'⟩ := List.mem_filterMap.mp hf
      exact (V x hx).2.2 env he hf'
    with_reducible rename Kept _ _ _ => K'
    ktr_rel
    all_goals (repeat' (first | k_unfold | dsimp only))
    all_goals (with_reducible rename Fr _ _ _ _ => F'; with_reducible rename News _ _ _ _ => N')
    all_goals (first
      | exact bad (by with_reducible assumption) _ _ _ (keptT_ro K' (by with_reducible assumption) F' N' (fun _ h => h) V)
      | skip)
    have n' := trivial; have h' := trivial; have tk' := trivial; have e1' := trivial
    rename_i n1 _ _ e1 n2 _ _ e2 n3 _ _ e3 l h9 l1
    obtain rfl : n1 = n2 := Option.some.inj (e1.symm.trans e2)
    obtain rfl : n1 = n3 := Option.some.inj (e1.symm.trans e3)
    exact ret n1 _ _ _ e1 (kept_ro K' F' N' (fun _ h => .tail _ h) V) (N' _ (.head _)).1 (fresh_ro K' N' (.head _) l1)
  · k_dflt walk_at "ktr_unfG"
    with_reducible rename _ = hideAll _ _ => GE
    have D9 : KtsDicts (outs.filterMap (·.frame)) _ := GE ▸ ktsDicts_hide hD fun a ha hf => by
      obtain ⟨x, hx, rfl⟩ := List.mem_map.mp ha
      obtain ⟨env, he, hf'⟩ := List.mem_filterMap.mp hf
      exact (V x hx).2.2 env he hf'
    with_reducible rename Kept _ _ _ => K'
    ktr_rel
    all_goals (repeat' (first | k_unfold | dsimp only))
    all_goals (with_reducible rename Fr _ _ _ _ => F'; with_reducible rename News _ _ _ _ => N')
    all_goals (first
      | exact bad (by with_reducible assumption) _ _ _ (keptT_ro K' (by with_reducible assumption) F' N' (fun _ h => h) V)
      | skip)
    have n' := trivial; have h' := trivial; have tk' := trivial; have e1' := trivial
    rename_i n1 _ _ e1 n2 _ _ e2 n3 _ _ e3 l h9 l1
    obtain rfl : n1 = n2 := Option.some.inj (e1.symm.trans e2)
    obtain rfl : n1 = n3 := Option.some.inj (e1.symm.trans e3)
    exact ret n1 _ _ _ e1 (kept_ro K' F' N' (fun _ h => .tail _ h) V) (N' _ (.head _)).1 (fresh_ro K' N' (.head _) l1)
end
section
theorem fill_Ai : PySem.Challenge.rw_ij0136_01 = PySem.Challenge.rw_ij0136_01 ∧ pre.heap_1 = pre.heap_1 := by
  k_fill
  exact ⟨rfl, rfl⟩
theorem c_askI {base : Heap} {s : Shared} {R : Result → Shared → Prop} {n way : Int} {tn tz tw : Tok} (hway : way = 0 ∨ way = 1)
    (B : Below (ar dp un gd outs) base outs s.heap) (X : (pre.heap_1 w.params).In base) (TT : Top p loose mean mg mb base)
    (V : Free base outs s.heap []) (hdp : dp + 40 < recursionLimit) (hu : un + 200 < cLine)
    (ret : ∀ h' tk' l, Kept [] s.heap h' → h'.get? l = some { cls := .type "list", data := .seq (askV way n).toArray } → s.heap.get? l = none → R (.ok (.ret (.ref l))) { s with heap := h', toks := tk' }) :
    codeAny (model PG w) (ar dp un gd outs) (.call (.ref 780) ⟨[.int n tn, .int 0 tz, .int way tw], []⟩) R s := by
  rcases hway with rfl | rfl
  · k_dflt ktr_unf
    with_reducible rename Kept _ _ _ => K'
    ktr_rel
    all_goals (repeat' (first | k_unfold | dsimp only))
    all_goals (with_reducible rename Fr _ _ _ _ => F'; with_reducible rename News _ _ _ _ => N')
    exact ret _ _ _ (kept_of K' F') (N' _ (.head _)).1 (fresh_ro (ro := []) K' N' (.head _) fun _ h => nomatch h)
  · k_dflt ktr_unf
    with_reducible rename Kept _ _ _ => K'
    ktr_rel
    all_goals (repeat' (first | k_unfold | dsimp only))
    all_goals (with_reducible rename Fr _ _ _ _ => F'; with_reducible rename News _ _ _ _ => N')
    exact ret _ _ _ (kept_of K' F') (N' _ (.head _)).1 (fresh_ro (ro := []) K' N' (.head _) fun _ h => nomatch h)
end
section
open PySem.W.X PySem.Builtin
set_option autoImplicit false
structure RowsS (h : Heap) (rows torn : Addr) (ra : Nat → Addr) (rk : Nat → List Nat) (tn : Nat → Bool) : Prop where
  rw_ : h.IsList rows #[.ref (ra 0), .ref (ra 1), .ref (ra 2), .ref (ra 3)]
  tn_ : h.IsList torn #[.bool (tn 0), .bool (tn 1), .bool (tn 2), .bool (tn 3)]
  at_ : ∀ i, i < 4 → ∃ vs, h.IsList (ra i) vs.toArray ∧ IntsAre vs ((rk i).map Int.ofNat)
  len : ∀ i, i < 4 → (rk i).length ≤ 100
theorem isList_keeps {h h' : Heap} {a : Addr} {items : Array Value} (k : ∀ b o, h.get? b = some o → h'.get? b = some o) (x : h.IsList a items) : h'.IsList a items := let ⟨o, ho, r⟩ := x; ⟨o, k _ _ ho, r⟩
theorem RowsS.keeps {h h' : Heap} {rows torn : Addr} {ra : Nat → Addr} {rk : Nat → List Nat} {tn : Nat → Bool} (D : RowsS h rows torn ra rk tn) (k : ∀ b o, h.get? b = some o → h'.get? b = some o) : RowsS h' rows torn ra rk tn :=
  ⟨isList_keeps k D.rw_, isList_keeps k D.tn_, fun i hi => let ⟨vs, e, i⟩ := D.at_ i hi; ⟨vs, isList_keeps k e, i⟩, D.len⟩
noncomputable def Idx (i : Int) (a : Nat) : Prop := a < 4 ∧ (i = a ∨ i = (a : Int) - 4)
theorem om_m4 (a : Nat) : (-4 : Int) ≤ (a : Int) - 4 := Int.le_trans (by decide : (-4 : Int) ≤ 0 - 4) (Int.sub_le_sub_right (Int.natCast_nonneg a) 4)
section
variable {w : World} {A : Around} {E : Value → Shared → Prop} {s : Shared} {g : Heap} {L : Addr} {m : Str → Option Value} {Q : Value → Shared → Prop} {rows torn : Addr} {ra : Nat → Addr} {rk : Nat → List Nat} {tn : Nat → Bool} {i : Int} {a : Nat} {t : Tok} {value slice : PySem.Expr}
theorem pick4 {l : Addr} {u : Nat → Value} (hl : s.heap.IsList l #[u 0, u 1, u 2, u 3]) (hi : Idx i a) (h : Q (u a) s)
    (hs : subscripted slice false (.ref l) (.int i t) = operate [.ref l, .int i t] (getItem (.ref l) (.int i t))) : wpAny (model PG w) A (subscriptTail value slice (.ref l) (.int i t)) Q E s := by
  obtain ⟨ha, hi⟩ := hi
  refine tail_any hl.typeIs slot_list_getitem.lookup ?_ hs
  rcases hi with rfl | rfl
  · refine wpAny_getItem_list hl (Int.natCast_nonneg a) (om_i63' ha rfl) ?_ h
    rcases a with _ | _ | _ | _ | a
    · rfl
    · rfl
    · rfl
    · rfl
    · exact (no4 ha).elim
  · refine wpAny_getItem_list_neg hl (Int.sub_neg_of_lt (Int.ofNat_lt.2 ha)) (om_m4 a) (Int.le_trans (by decide) (om_m4 a)) ?_ h
    rcases a with _ | _ | _ | _ | a
    · rfl
    · rfl
    · rfl
    · rfl
    · exact (no4 ha).elim
theorem row_pick (F : Fr g L s.heap m) (D : RowsS g rows torn ra rk tn) (hi : Idx i a) (h : Q (.ref (ra a)) s)
    (hs : subscripted slice false (.ref rows) (.int i t) = operate [.ref rows, .int i t] (getItem (.ref rows) (.int i t)) := by with_unfolding_all rfl) : wpAny (model PG w) A (subscriptTail value slice (.ref rows) (.int i t)) Q E s :=
  pick4 (u := fun a => .ref (ra a)) (isList_keeps F.keep D.rw_) hi h hs
theorem torn_pick (F : Fr g L s.heap m) (D : RowsS g rows torn ra rk tn) (hi : Idx i a) (h : Q (.bool (tn a)) s)
    (hs : subscripted slice false (.ref torn) (.int i t) = operate [.ref torn, .int i t] (getItem (.ref torn) (.int i t)) := by with_unfolding_all rfl) : wpAny (model PG w) A (subscriptTail value slice (.ref torn) (.int i t)) Q E s :=
  pick4 (u := fun a => .bool (tn a)) (isList_keeps F.keep D.tn_) hi h hs
theorem row_len (F : Fr g L s.heap m) (D : RowsS g rows torn ra rk tn) (ha : a < 4) (h : ∀ u, Q (.int (((rk a).length : Nat) : Int) u) { s with toks := s.toks + 1 + 1 }) : wpAny (model PG w) A (call (.builtin "len") [.ref (ra a)]) Q E s := by
  obtain ⟨vs, hl, hv⟩ := D.at_ a ha
  have := D.len a ha
  have e : vs.toArray.size = (rk a).length := by rw [List.size_toArray, hv.length, List.length_map]
  refine len_list (isList_keeps F.keep hl) (by rw [e]; exact om_i63 this rfl) ?_
  rw [e]
  exact h _
theorem row_at {k : Nat} (F : Fr g L s.heap m) (D : RowsS g rows torn ra rk tn) (ha : a < 4) (hk : k < (rk a).length) (h : ∀ u, Q (.int (((rk a).getD k 0 : Nat) : Int) u) s)
    (hs : subscripted slice false (.ref (ra a)) (.int (k : Int) t) = operate [.ref (ra a), .int (k : Int) t] (getItem (.ref (ra a)) (.int (k : Int) t)) := by with_unfolding_all rfl) : wpAny (model PG w) A (subscriptTail value slice (.ref (ra a)) (.int (k : Int) t)) Q E s := by
  obtain ⟨vs, hl, hv⟩ := D.at_ a ha
  have := D.len a ha
  refine item_anyK (isList_keeps F.keep hl) hv (Int.natCast_nonneg k) (by rw [List.length_map]; exact Int.ofNat_lt.2 hk) (om_i63 (Nat.le_trans (Nat.le_of_lt hk) this) rfl) (fun u => ?_) hs
  have e : ((rk a).map Int.ofNat).getD (k : Int).toNat 0 = (((rk a).getD k 0 : Nat) : Int) := by
    rw [Int.toNat_natCast, List.getD_eq_getElem?_getD, List.getD_eq_getElem?_getD, List.getElem?_map, List.getElem?_eq_getElem hk]
    rfl
  rw [e]
  exact h u
noncomputable def extAt (l : List Nat) (k : Nat) : Int := if k < l.length then ((l.getD k 0 : Nat) : Int) else -1
theorem row_add {q : Addr} {t1 : Tok} {n : Nat} {news : List (Addr × Obj)} (F : Fr g L s.heap m) (N : News g L s.heap news) (D : RowsS g rows torn ra rk tn) (ha : a < 4) (hq : (q, W.listOf #[Value.int (-1) t1] n) ∈ news)
    (h : ∀ h' z ys, Fr g L h' m → News g L h' ((z, { cls := .type "list", data := .seq ys.toArray }) :: news) → IntsAre ys ((rk a).map Int.ofNat ++ [-1]) → Q (.ref z) { s with heap := h' }) : wpAny (model PG w) A (binaryOp .Add (.ref (ra a)) (.ref q)) Q E s := by
  obtain ⟨vs, hl, hv⟩ := D.at_ a ha
  have := D.len a ha
  have e : vs.length = (rk a).length := by rw [hv.length, List.length_map]
  refine add_lists (ws := [.int (-1) t1]) F N (isList_keeps F.keep hl) ⟨_, (N _ hq).1, rfl, _, rfl⟩ (fun h' F' N' => h h' _ _ F' N' ?_) (by rw [sizeLine_eq, e]; exact om_le (Nat.succ_le_succ this) rfl)
  exact hv.append (.cons _ _ .nil)
theorem ext_at {z : Addr} {ys : List Value} {k : Nat} {news : List (Addr × Obj)} (N : News g L s.heap news) (hz : (z, { cls := .type "list", data := .seq ys.toArray }) ∈ news) (hy : IntsAre ys ((rk a).map Int.ofNat ++ [-1])) (hlen : (rk a).length ≤ 100) (hk : k ≤ (rk a).length) (h : ∀ u, Q (.int (extAt (rk a) k) u) s)
    (hs : subscripted slice false (.ref z) (.int (k : Int) t) = operate [.ref z, .int (k : Int) t] (getItem (.ref z) (.int (k : Int) t)) := by with_unfolding_all rfl) : wpAny (model PG w) A (subscriptTail value slice (.ref z) (.int (k : Int) t)) Q E s := by
  refine item_anyK ⟨_, (N _ hz).1, rfl, _, rfl⟩ hy (Int.natCast_nonneg k) (by rw [List.length_append, List.length_map]; exact Int.ofNat_lt.2 (Nat.lt_succ_of_le hk)) (om_i63 (Nat.le_trans hk hlen) rfl) (fun u => ?_) hs
  have e : ((rk a).map Int.ofNat ++ [-1]).getD (k : Int).toNat 0 = extAt (rk a) k := by
    rw [Int.toNat_natCast, List.getD_eq_getElem?_getD]
    unfold extAt
    by_cases hlt : k < (rk a).length
    · rw [if_pos hlt, List.getElem?_append_left (by rw [List.length_map]; exact hlt), List.getD_eq_getElem?_getD, List.getElem?_map, List.getElem?_eq_getElem hlt]
      rfl
    · have : k = ((rk a).map Int.ofNat).length := by rw [List.length_map]; exact Nat.le_antisymm hk (Nat.le_of_not_lt hlt)
      rw [if_neg hlt, this, List.getElem?_append_right (Nat.le_refl _), Nat.sub_self]
      rfl
  rw [e]
  exact h u
end
noncomputable def DuJ (u : Str → Option Value) (ka kb : List Nat) (ta tb : Bool) (r : Option Int) (n : Nat) (m : Str → Option Value) (news : List (Addr × Obj)) : Prop :=
  ∃ (k : Nat) (tk : Tok), m = (fun y => if y = Str.ofString "k" then some (.int (k : Int) tk) else u y) ∧ k ≤ ka.length ∧ k ≤ kb.length ∧ due (ka.drop k) ta (kb.drop k) tb = r ∧ n = ka.length - k ∧ news = []
noncomputable def DuMid (u : Str → Option Value) (ka kb : List Nat) (ta tb : Bool) (r : Option Int) (g : Heap) (L : Addr) (s : Shared) (f : Flow) (s' : Shared) : Prop :=
  f = .next ∧ ∃ (k : Nat) (tk : Tok) (h' : Heap) (tk' : Nat), s' = { s with heap := h', toks := tk' } ∧ Fr g L h' (fun y => if y = Str.ofString "k" then some (.int (k : Int) tk) else u y) ∧ k ≤ ka.length ∧ k ≤ kb.length ∧ due (ka.drop k) ta (kb.drop k) tb = r ∧
    (k < ka.length → k < kb.length → ka.getD k 0 ≠ kb.getD k 0)
theorem du_while {w : World} {A : Around} {E : Value → Shared → Prop} {Q : Flow → Shared → Prop} {s : Shared} {env : Env} {g : Heap} {L : Addr} {test : Expr} {body : List Stmt} {ps : Pos} {u : Str → Option Value} {t0 : Tok}
    (ka kb : List Nat) (ta tb : Bool) (F : Fr g L s.heap (fun y => if y = Str.ofString "k" then some (.int 0 t0) else u y))
    (turn : ∀ (n k : Nat) (tk : Tok) h₁ tk₁ (q : Flow → Shared → Prop) (mid : Shared → Prop), (∀ f s', WhileStep2 g L s (DuJ u ka kb ta tb (due ka ta kb tb)) (DuMid u ka kb ta tb (due ka ta kb tb) g L s) n f s' → q f s') → (∀ s', DuMid u ka kb ta tb (due ka ta kb tb) g L s .next s' → mid s') → Fr g L h₁ (fun y => if y = Str.ofString "k" then some (.int (k : Int) tk) else u y) → News g L h₁ [] → k ≤ ka.length → k ≤ kb.length → due (ka.drop k) ta (kb.drop k) tb = due ka ta kb tb → n = ka.length - k →
      wpAny (model PG w) A (isTrue test env (eval test env)) (fun b s₂ =>
        if b = true then wpAny (model PG w) A (execs body env) q E s₂ else mid s₂) E { s with heap := h₁, toks := tk₁ })
    (after : ∀ (k : Nat) (tk : Tok) h' tk', Fr g L h' (fun y => if y = Str.ofString "k" then some (.int (k : Int) tk) else u y) → News g L h' [] → k ≤ ka.length → k ≤ kb.length → due (ka.drop k) ta (kb.drop k) tb = due ka ta kb tb →
      (k < ka.length → k < kb.length → ka.getD k 0 ≠ kb.getD k 0) → Q .next { s with heap := h', toks := tk' })
    (hE : PassesOwn (model PG w) A env E) :
    wpAny (model PG w) A (exec (.While test body [] ps) env) Q E s :=
  wpAny_mono (While_inv2 (DuJ u ka kb ta tb (due ka ta kb tb)) (n₀ := ka.length) F News.nil ⟨0, t0, rfl, Nat.zero_le _, Nat.zero_le _, rfl, rfl, rfl⟩
    (fun n m₁ news₁ h₁ tk₁ F₁ N₁ j => by
      obtain ⟨k, tk, rfl, a1, a2, a3, a4, rfl⟩ := j
      exact turn n k tk h₁ tk₁ _ _ (fun _ _ h => h) (fun _ h => h) F₁ N₁ a1 a2 a3 a4) hE) (fun f s' h => by
    obtain ⟨rfl, k, tk, h', tk', rfl, F, a1, a2, a3, a4⟩ := h
    exact after k tk h' tk' F News.nil a1 a2 a3 a4) fun _ _ x => x
theorem due_step {ka kb : List Nat} {ta tb : Bool} {k : Nat} (h1 : k < ka.length) (h2 : k < kb.length) (e : ka.getD k 0 = kb.getD k 0) : due (ka.drop (k + 1)) ta (kb.drop (k + 1)) tb = due (ka.drop k) ta (kb.drop k) tb := by
  rw [List.drop_eq_getElem_cons h1, List.drop_eq_getElem_cons h2]
  rw [List.getD_eq_getElem?_getD, List.getD_eq_getElem?_getD, List.getElem?_eq_getElem h1, List.getElem?_eq_getElem h2] at e
  have e' : ka[k] = kb[k] := e
  show _ = if ka[k] = kb[k] then _ else _
  rw [if_pos e']
theorem du_step {ka kb : List Nat} {ta tb : Bool} {u : Str → Option Value} {g h' : Heap} {L : Addr} {s : Shared} {r : Option Int} {n k : Nat} {t t' : Tok} {tk' : Nat} {Q : Flow → Shared → Prop} (F : Fr g L h' (fun y => if y = Str.ofString "k" then some (.int ((k : Int) + 1) t') else if y = Str.ofString "k" then some (.int (k : Int) t) else u y))
    (h1 : k < ka.length) (h2 : k < kb.length) (e : ka.getD k 0 = kb.getD k 0) (hr : due (ka.drop k) ta (kb.drop k) tb = r) (hn : n = ka.length - k) : WhileStep2 g L s (DuJ u ka kb ta tb r) Q n .next { s with heap := h', toks := tk' } := by
  have em : (fun y => if y = Str.ofString "k" then some (.int ((k : Int) + 1) t') else if y = Str.ofString "k" then some (.int (k : Int) t) else u y) = (fun y => if y = Str.ofString "k" then some (.int ((k + 1 : Nat) : Int) t') else u y) := by
    funext y
    by_cases hy : y = Str.ofString "k"
    · rw [if_pos hy, if_pos hy]; rfl
    · rw [if_neg hy, if_neg hy, if_neg hy]
  rw [em] at F
  exact ⟨h', tk', _, [], ka.length - (k + 1), rfl, F, News.nil, hn ▸ om_sub1 h1, k + 1, t', rfl, h1, h2, by rw [due_step h1 h2 e, hr], rfl, rfl⟩
theorem drop_nil {l : List Nat} {k : Nat} (h : k = l.length) : l.drop k = [] := by subst h; exact List.drop_length
theorem due_none_a {ka kb : List Nat} {ta tb : Bool} {k : Nat} (h : k = ka.length) (ht : ta = true) : due (ka.drop k) ta (kb.drop k) tb = none := by
  rw [drop_nil h, ht]; rfl
theorem due_none_b {ka kb : List Nat} {ta tb : Bool} {k : Nat} (h : k = kb.length) (ht : tb = true) : due (ka.drop k) ta (kb.drop k) tb = none := by
  rw [drop_nil h, ht]
  cases ka.drop k with
  | nil => cases ta <;> rfl
  | cons x l => rfl
theorem due_some {ka kb : List Nat} {ta tb : Bool} {k : Nat} (h1 : k ≤ ka.length) (h2 : k ≤ kb.length) (hn : k < ka.length → k < kb.length → ka.getD k 0 ≠ kb.getD k 0) (ha : k = ka.length → ta = false) (hb : k = kb.length → tb = false) :
    due (ka.drop k) ta (kb.drop k) tb = some (extAt ka k - extAt kb k) := by
  unfold extAt
  by_cases ea : k = ka.length
  · rw [drop_nil ea, ha ea, if_neg (Nat.not_lt_of_le (Nat.le_of_eq ea.symm))]
    by_cases eb : k = kb.length
    · rw [drop_nil eb, hb eb, if_neg (Nat.not_lt_of_le (Nat.le_of_eq eb.symm))]; rfl
    · have hlt : k < kb.length := Nat.lt_of_le_of_ne h2 eb
      rw [List.drop_eq_getElem_cons hlt, if_pos hlt, List.getD_eq_getElem?_getD, List.getElem?_eq_getElem hlt]
      rfl
  · have hlt : k < ka.length := Nat.lt_of_le_of_ne h1 ea
    rw [List.drop_eq_getElem_cons hlt, if_pos hlt]
    by_cases eb : k = kb.length
    · rw [drop_nil eb, hb eb, if_neg (Nat.not_lt_of_le (Nat.le_of_eq eb.symm)), List.getD_eq_getElem?_getD, List.getElem?_eq_getElem hlt]; rfl
    · have hlb : k < kb.length := Nat.lt_of_le_of_ne h2 eb
      have hne := hn hlt hlb
      rw [List.getD_eq_getElem?_getD, List.getD_eq_getElem?_getD, List.getElem?_eq_getElem hlt, List.getElem?_eq_getElem hlb] at hne
      rw [List.drop_eq_getElem_cons hlb, if_pos hlb, List.getD_eq_getElem?_getD, List.getD_eq_getElem?_getD, List.getElem?_eq_getElem hlt, List.getElem?_eq_getElem hlb]
      show (if ka[k] = kb[k] then _ else _) = _
      rw [if_neg (show ¬ ka[k] = kb[k] from hne)]
      rfl
end
section
theorem fill_Du : PySem.Challenge.rw_ij0136_01 = PySem.Challenge.rw_ij0136_01 ∧ pre.heap_1 = pre.heap_1 := by
  k_with_none
  k_with "my rel" => (repeat' (first | (k_unfold; (try dsimp only)) | walk1 | walk_at "my next" | (dsimp only; walk1) | (leave1; try dsimp only) | fail "no step"))
  k_with "my room" => (((try simp only [depth_mark, depth_under_make, depth_under_kw, depth_in1, depth_deeper, depth_caller]); (try dsimp only [ar]); omega))
  k_with "my units" => ((have hcL9 := cLine_is; (try simp only [units_in1, units_deeper, Around.mark_units, units_caller]); (try dsimp only [ar]); omega))
  k_with "my unf" => ((refine' enter ?k1 ?k2 ?k3 ?k4 ?k6 ?k7 ?k8 ?k9 ?kB ?_ ?c2 ?c3 ?c4 ?c5; (case k1 => assumption); (case k2 => assumption); (case k3 => assumption); (case k4 => assumption); (case k6 => k_is); (case k7 => k_is); (case k8 => k_room); (case k9 => first | exact BindsTo.of_eq rfl | exact binds_K (Frag.In.keeps (by assumption) (Below.stays (by assumption))) rfl (by k_is) rfl rfl rfl); (case c5 => decide); (case kB => exact locs rfl); (case c2 => exact rfl); (case c3 => exact rfl); (case c4 => exact rfl); k_whole; intro g' L' h' G' F' N' B' X' T'; (try simp only [List.map_cons, List.map_nil] at G'); (try dsimp only); (try k_fold)))
  k_with "subscriptTail Attribute Name Slice str ref" => (((with_reducible rename Fr _ _ _ _ => F'); (with_reducible rename News _ _ _ _ => N'); (refine slice_strN_ss (hsz := ?hsz) (s := ⟨_, _, _, _, _⟩) F' N' ?_); (case hsz => (rw [sizeLine_eq]; omega)); intro h' t' tk' F' N'; (try k_sweep)))
  k_with "subscriptTail BinOp Subscript Add Constant Slice str ref" => (((with_reducible rename Fr _ _ _ _ => F'); (with_reducible rename News _ _ _ _ => N'); (refine slice_strN_ns (hsz := ?hsz) (s := ⟨_, _, _, _, _⟩) F' N' ?_); (case hsz => exact size_sl (by with_reducible assumption)); intro h' t' tk' F' N'; (try k_sweep)))
  k_with "call builtin:str.find" => (refine find4 ?_)
  k_with "my apart" => (repeat' (first | (refine List.forall_mem_cons.2 ⟨⟨?_, ?_⟩, ?_⟩) | exact List.forall_mem_nil _ | with_reducible assumption | (apply Ne.symm; with_reducible assumption)))
  k_with "binaryOp Add str str" => (((refine add_str (hsz := size_slc (by with_reducible assumption)) ?_); intro _ _))
  k_with "execs cons" => (((try dsimp only); first | (with_reducible refine nx_last ?_) | ((with_reducible refine nx_cons ?_); intro q' nx')))
  k_with "execs nil" => (with_reducible refine wpAny_execs_nil ?_)
  k_with "my next" => (with_reducible first | refine trq_b ?_ | refine ifq_t ?_ | refine ifq_f ?_ | refine ifq ?_ | refine trq ?_ | refine nx_next (by assumption) ?_ | refine nx_ret (by assumption) ?_ | refine nx_brk (by assumption) ?_ | refine nx_cont (by assumption) ?_)
  k_with "eval Constant int" => (((with_reducible refine int_T ?_); intro t' tk'))
  k_with "eval Constant str" => (((with_reducible refine str_T ?_); intro t' tk'))
  k_with "my nth" => (with_reducible first | exact nth_0 | exact nth_1 | exact nth_2 | exact nth_3 | exact nth_4 | exact nth_5 | exact nth_6)
  k_with "my ne" => (first | with_reducible assumption | exact Ne.symm (by with_reducible assumption) | k_ne)
  k_with "my allne" => (first | with_reducible exact all_nil | (refine' all_cons ?a ?b; (case a => walk_at "my ne"); (case b => walk_at "my allne")))
  k_with "my upd" => (first | (refine' upd_head ?a; (case a => walk_at "my allne")) | (refine' upd_tail ?a ?b; (case a => walk_at "my ne"); (case b => walk_at "my upd")))
  k_with "eval Name" => ((k_here; (with_reducible first | show wpAny _ _ (PySem.eval _ (envOf _ _ _ _ _)) _ _ _ | show wpAny _ _ (PySem.eval _ (envX _ _ _ _ _ _)) _ _ _); k_dflt (refine' name_T ?F ?v ?o ?_; (case F => k_asm); (case o => exact rfl); (case v => rfl); k_whole)))
  k_with "eval Attribute Name" => ((k_here; (with_reducible first | show wpAny _ _ (PySem.eval _ (envOf _ _ _ _ _)) _ _ _ | show wpAny _ _ (PySem.eval _ (envX _ _ _ _ _ _)) _ _ _); k_dflt (refine' own_T ?F ?x ?lo ?X ?N ?h1 ?h2 ?ok ?ho ?hl ?hv ?_; (case F => k_asm); (case lo => exact rfl); (case x => exact rfl); (case X => k_asm); (case N => k_asm); (case h1 => walk_at "my nth"); (case h2 => walk_at "my nth"); (case ok => (intro P9; kernel_rfl)); (case ho => first | exact rfl | walk_at "my isD"); (case hl => first | k_get | walk_at "my getl"); (case hv => first | exact rfl | k_handed); k_whole); intro tk'))
  k_with "getAttr ref" => ((k_here; k_dflt (refine' get_T ?F ?X ?N ?h1 ?h2 ?ok ?ho ?hl ?hv ?_; (case F => k_asm); (case X => k_asm); (case N => k_asm); (case h1 => walk_at "my nth"); (case h2 => walk_at "my nth"); (case ok => (intro P9; kernel_rfl)); (case ho => first | exact rfl | walk_at "my isD"); (case hl => first | k_get | walk_at "my getl"); (case hv => first | exact rfl | k_handed); k_whole); intro tk'))
  k_with "storeName" => ((k_here; (with_reducible first | show wpAny _ _ (PySem.storeName (envOf _ _ _ _ _)  _ _) _ _ _ | show wpAny _ _ (PySem.storeName (envX _ _ _ _ _ _)  _ _) _ _ _); k_dflt (refine' store_T ?F ?N ?o ?_; (case F => k_asm); (case N => k_asm); (case o => exact rfl); k_whole); intro h' tk' F' N'; (try k_sweep)))
  k_with "setAttr ref" => ((k_here; k_dflt (refine' set_T ?F ?X ?N ?h1 ?h2 ?ok ?e ?U ?_; (case F => k_asm); (case X => k_asm); (case N => k_asm); (case h1 => walk_at "my nth"); (case h2 => walk_at "my nth"); (case ok => (intro P9; kernel_rfl)); (case e => walk_at "my puts"); (case U => walk_at "my upd"); k_whole); intro h' tk' F' N'; (try k_sweep)))
  k_with "ite" => (first | with_reducible refine ite_tt ?_ | with_reducible refine ite_ff ?_)
  k_with "my ofb" => (with_reducible first | exact Nat.ne_of_beq_eq_false rfl | exact off1 | exact ffo1 | exact off2 | exact ffo2 | exact off3 | exact ffo3 | exact off4 | exact ffo4 | exact off5 | exact ffo5 | exact off6 | exact ffo6)
  k_with "my off" => (with_reducible first | walk_at "my ofb" | (refine strip ?_; first | walk_at "my ofb" | (refine strip ?_; first | walk_at "my ofb" | (refine strip ?_; first | walk_at "my ofb" | (refine strip ?_; first | walk_at "my ofb" | (refine strip ?_; walk_at "my ofb"))))))
  k_with "my omega" => (with_reducible first | (show _ < _; first | exact room (by assumption) rfl | exact room0 (by assumption) | exact room2 (by assumption) rfl | exact room3 (by assumption) rfl | exact room4 (by assumption) rfl | exact room5 (by assumption) rfl | exact lt_ble rfl | exact om_i63' (by assumption) rfl | exact om_i63 (by assumption) rfl | exact Nat.succ_lt_succ (by assumption) | exact Nat.lt_of_succ_lt_succ (by assumption) | exact Int.ofNat_lt.2 (by assumption) | exact Int.ofNat_lt.1 (by assumption)) | (show _ ≤ _; first | exact Nat.le_of_ble_eq_true rfl | exact Nat.le_refl _ | exact Nat.le_succ _ | exact Nat.le_add_right _ _ | exact om_ltle (by assumption) rfl | exact om_le (by assumption) rfl | exact Nat.le_of_lt (by assumption) | exact Int.ofNat_le.2 (by assumption) | exact Int.natCast_nonneg _ | exact Int.ofNat_le.1 (by assumption) | exact om_addl rfl) | (show _ ≠ _; first | walk_at "my off" | exact om_nne (by assumption)) | (show _ = _; first | exact om_nn (by assumption)) | (show False; first | exact no3 (by assumption) | exact no4 (by assumption) | exact no5 (by assumption) | exact no6 (by assumption)) | fail "no")
  k_with "my cmp" => (((case F => k_asm); (case o => exact rfl); (case v => rfl)))
  k_with "isTrue Compare" => (first | (k_here; (with_reducible first | show wpAny _ _ (isTrue _ (envOf _ _ _ _ _) _) _ _ _ | show wpAny _ _ (isTrue _ (envX _ _ _ _ _ _) _) _ _ _); first | ((with_reducible show wpAny _ _ (isTrue (.Compare (.Name _ _) [_] [.Constant (.str _) _ _] _) _ _) _ _ _); k_dflt (refine' cmp_s ?F ?v ?o ?_ ?m; walk_at "my cmp"; (case m => with_unfolding_all rfl); k_whole; intro t' tk')) | ((with_reducible show wpAny _ _ (isTrue (.Compare (.Name _ _) [_] [.Constant (.int _) _ _] _) _ _) _ _ _); k_dflt (refine' cmp_i ?F ?v ?o ?_ ?m; walk_at "my cmp"; (case m => with_unfolding_all rfl); k_whole; intro t' tk')) | ((with_reducible show wpAny _ _ (isTrue (.Compare (.Name _ _) [_] [.Constant .none _ _] _) _ _) _ _ _); k_dflt (refine' cmp_n ?F ?v ?o ?_ ?m; walk_at "my cmp"; (case m => with_unfolding_all rfl); k_whole)) | ((with_reducible show wpAny _ _ (isTrue (.Compare (.Name _ _) [_] [.Name _ _] _) _ _) _ _ _); k_dflt (refine' cmp_nn ?F ?v ?o ?u ?p ?_ ?m; walk_at "my cmp"; (case p => exact rfl); (case u => rfl); (case m => with_unfolding_all rfl); k_whole))) | with_reducible refine cmp_1 ?_)
  k_with "exec If" => (with_reducible refine if_T ?_)
  k_with "my puts" => (first | with_reducible exact lex_state | with_reducible exact lex_token | with_reducible exact lex_line | with_reducible exact sio_pos)
  k_with "ite" => (first | with_reducible refine ite_tt ?_ | with_reducible refine ite_ff ?_)
  k_with "my lt" => (first | with_reducible assumption | omega | (simp only [decide_eq_true_eq, decide_eq_false_iff_not, Int.ofNat_lt, Int.natCast_lt] at *; omega))
  k_with "subscriptTail" => (((with_reducible show wpAny _ _ (subscriptTail (Expr.Subscript _ _ _) _ _ _) _ _ _); (with_reducible rename Fr _ _ _ _ => F'); (with_reducible rename RowsS _ _ _ _ _ _ => D9'); k_dflt (refine' row_at F' D9' ?a ?k ?_; (case a => with_reducible assumption); (case k => walk_at "my lt")); intro u'))
  k_with "subscriptTail" => (((with_reducible show wpAny _ _ (subscriptTail (Expr.Name _ _) _ _ _) _ _ _); (with_reducible rename Fr _ _ _ _ => F'); (with_reducible rename RowsS _ _ _ _ _ _ => D9'); k_dflt (refine' torn_pick F' D9' ?i ?_; (case i => with_reducible assumption))))
  k_with "subscriptTail" => (((with_reducible show wpAny _ _ (subscriptTail (Expr.Name _ _) _ _ _) _ _ _); (with_reducible rename Fr _ _ _ _ => F'); (with_reducible rename RowsS _ _ _ _ _ _ => D9'); k_dflt (refine' row_pick F' D9' ?i ?_; (case i => with_reducible assumption))))
  k_with "call builtin:len" => (((with_reducible rename Fr _ _ _ _ => F'); (with_reducible rename RowsS _ _ _ _ _ _ => D9'); (refine' row_len F' D9' ?a ?_; (case a => with_reducible assumption)); intro u'))
  k_with "binaryOp Add ref ref" => (((with_reducible rename Fr _ _ _ _ => F'); (with_reducible rename News _ _ _ _ => N'); k_dflt (refine' row_add F' N' ?D ?a ?q ?_; (case D => with_reducible assumption); (case a => with_reducible assumption); (case q => k_mem)); intro h' z' ys' F' N' iy'))
  k_with "subscriptTail" => (((with_reducible show wpAny _ _ (subscriptTail (Expr.BinOp _ _ _ _) _ _ _) _ _ _); (with_reducible rename Fr _ _ _ _ => F'); (with_reducible rename News _ _ _ _ => N'); k_dflt (refine' ext_at N' ?m ?y ?l ?k ?_; (case m => k_mem); (case y => with_reducible assumption); (case l => with_reducible assumption); (case k => walk_at "my lt")); intro u'))
  k_fill
  exact ⟨rfl, rfl⟩
theorem lines_Du_0 : True := by
  k_with "exec While" => (refine stop_here ?_)
  trivial
theorem c_due {base : Heap} {s : Shared} {R : Result → Shared → Prop} {i j : Int} {a b : Nat} {ti tj : Tok} {rows torn : Addr} {ra : Nat → Addr} {rk : Nat → List Nat} {tn : Nat → Bool}
    (B : Below (ar dp un gd outs) base outs s.heap) (X : (pre.heap_1 w.params).In base) (TT : Top p loose mean mg mb base)
    (V : Free base outs s.heap []) (hdp : dp + 40 < recursionLimit) (hu : un + 200 < cLine) (D : RowsS s.heap rows torn ra rk tn) (hi : Idx i a) (hj : Idx j b)
    (ret : ∀ h' tk' vv, Kept [] s.heap h' → (match due (rk a) (tn a) (rk b) (tn b) with | none => vv = .none | some n => ∃ t, vv = .int n t) → R (.ok (.ret vv)) { s with heap := h', toks := tk' }) :
    codeAny (model PG w) (ar dp un gd outs) (.call (.ref 794) ⟨[.ref rows, .ref torn, .int i ti, .int j tj], []⟩) R s := by
  k_dflt ktr_unf
  with_reducible rename Kept _ _ _ => K'
  have D' := D.keeps fun b o e => K' b o e List.not_mem_nil
  clear D
  have ha := hi.1
  have hb := hj.1
  have hla := D'.len a ha
  have hlb := D'.len b hb
  ktr_rel
  unfold Stop
  with_reducible rename Fr _ _ _ _ => F'
  refine du_while (rk a) (rk b) (tn a) (tn b) F' ?turn ?after ?own
  case own => first | passes_own | with_unfolding_all passes_own
  case turn =>
    intro n k tk h₁ tk₁ Q' mid hq hmid F' N' h1 h2 hd hn
    ktr_rel
    all_goals (try dsimp only)
    all_goals (with_reducible rename Fr _ _ _ _ => F')
    all_goals (first
      | exact hq _ _ (du_step F' (by omega) (by omega) (by omega) hd hn)
      | exact hmid _ ⟨rfl, k, _, _, _, rfl, F', h1, h2, hd, fun a9 b9 => (by first | exact om_nne (by with_reducible assumption) | exact absurd (Int.ofNat_lt.2 a9) (by with_reducible assumption) | exact absurd (Int.ofNat_lt.2 b9) (by with_reducible assumption))⟩)
  case after =>
    intro k tk h₁ tk₁ F' N' h1 h2 hd hn
    dsimp only
    ktr_rel
    all_goals (repeat' (first | k_unfold | dsimp only))
    all_goals (with_reducible rename Fr _ _ _ _ => F')
    all_goals (refine ret _ _ _ (kept_of K' F') ?_; rw [← hd])
    all_goals (first
      | (rw [due_none_a (by omega) (by with_reducible assumption)])
      | (rw [due_none_b (by omega) (by with_reducible assumption)])
      | (rw [due_some h1 h2 hn (fun e => (by first | with_reducible assumption | exact absurd (congrArg (Nat.cast (R := Int)) e) (by with_reducible assumption))) (fun e => (by first | with_reducible assumption | exact absurd (congrArg (Nat.cast (R := Int)) e) (by with_reducible assumption)))]; exact ⟨_, rfl⟩))
end
section
theorem k_due {base g : Heap} {L : Addr} {m : Str → Option Value} {env : Env} {s : Shared} {Q : Value → Shared → Prop} {E : Value → Shared → Prop} {led : List (Addr × Obj)}
    {i j : Int} {a b : Nat} {ti tj : Tok} {rows torn : Addr} {ra : Nat → Addr} {rk : Nat → List Nat} {tn : Nat → Bool}
    (B : Below (ar dp un gd outs) base outs g) (F : Fr g L s.heap m) (N : News g L s.heap led) (X : (pre.heap_1 w.params).In base) (TT : Top p loose mean mg mb base)
    (hf : env.frame = some L) (hk : env.scope.kind = .function) (D : RowsS s.heap rows torn ra rk tn) (hi : Idx i a) (hj : Idx j b) (hdp : dp + 43 < recursionLimit) (hu : un + 205 < cLine)
    (q0 : due (rk a) (tn a) (rk b) (tn b) = none → ∀ h' tk', Fr g L h' m → News g L h' led → Kept [] s.heap h' → Q .none { s with heap := h', toks := tk' })
    (q1 : ∀ n t h' tk', due (rk a) (tn a) (rk b) (tn b) = some n → Fr g L h' m → News g L h' led → Kept [] s.heap h' → Q (.int n t) { s with heap := h', toks := tk' }) :
    wpAny (model PG w) ((ar dp un gd outs).deeper env) (call (.ref 794) [.ref rows, .ref torn, .int i ti, .int j tj]) Q E s := by
  refine call_by fun R ok _ => c_due (dp := dp + 1) (un := un + 3) (outs := env :: outs) (pushX B F hf hk) X TT (free_of B F N hf fun _ h => nomatch h) (by omega) (by omega) D hi hj fun h' tk' vv k hv => ?_
  obtain ⟨F', N'⟩ := back0 F N k
  refine ok _ _ ?_
  cases hd : due (rk a) (tn a) (rk b) (tn b) with
  | none => rw [hd] at hv; cases hv; exact q0 hd h' tk' F' N' k
  | some n => rw [hd] at hv; obtain ⟨t, rfl⟩ := hv; exact q1 n t h' tk' hd F' N' k
theorem idx0 : Idx 0 0 := ⟨by decide, .inl rfl⟩
theorem idx1 : Idx 1 1 := ⟨by decide, .inl rfl⟩
theorem idx2 : Idx 2 2 := ⟨by decide, .inl rfl⟩
theorem idx3 : Idx 3 3 := ⟨by decide, .inl rfl⟩
theorem idxm : Idx (-1) 3 := ⟨by decide, .inr rfl⟩
noncomputable def fst3 (f : Nat → Nat → Option Int) (b k : Nat) : Option Nat := (f k b).map fun n => if n < 0 then k else b
noncomputable def first4 (f : Nat → Nat → Option Int) : Option Nat := ((fst3 f 0 1).bind fun b => fst3 f b 2).bind fun b => fst3 f b 3
theorem idx_of {i : Int} (h0 : 0 ≤ i) (h3 : i ≤ 3) : Idx i i.toNat := ⟨om_tl h0 (Int.lt_of_le_of_lt h3 (by decide)), .inl (om_tn h0)⟩
section
variable {f : Nat → Nat → Option Int} {n1 n2 n3 r1 r2 r3 : Int}
noncomputable def firstV (f : Nat → Nat → Option Int) : Int := match first4 f with | none => -1 | some b => (b : Int)
theorem first_b1 (d1 : f 1 0 = none) : firstV f = -1 := by simp [firstV, first4, fst3, d1]
theorem fst_nat {n r : Int} {k b : Nat} (h : n < 0 ∧ r = k ∨ ¬ n < 0 ∧ r = b) : (if n < 0 then k else b) = r.toNat ∧ 0 ≤ r := by
  rcases h with ⟨a, rfl⟩ | ⟨a, rfl⟩
  · rw [if_pos a]; exact ⟨rfl, Int.natCast_nonneg _⟩
  · rw [if_neg a]; exact ⟨rfl, Int.natCast_nonneg _⟩
theorem first_b2 (d1 : f 1 0 = some n1) (h1 : n1 < 0 ∧ r1 = 1 ∨ ¬ n1 < 0 ∧ r1 = 0) (d2 : f 2 r1.toNat = none) : firstV f = -1 := by
  have e1 := fst_nat (k := 1) (b := 0) h1
  simp only [firstV, first4, fst3, d1, Option.map_some, Option.bind_some, e1.1, d2, Option.map_none, Option.bind_none]
theorem first_b3 (d1 : f 1 0 = some n1) (h1 : n1 < 0 ∧ r1 = 1 ∨ ¬ n1 < 0 ∧ r1 = 0) (d2 : f 2 r1.toNat = some n2) (h2 : n2 < 0 ∧ r2 = 2 ∨ ¬ n2 < 0 ∧ r2 = r1) (d3 : f 3 r2.toNat = none) : firstV f = -1 := by
  have e1 := fst_nat (k := 1) (b := 0) h1
  have e2 := fst_nat (k := 2) (b := r1.toNat) (r := r2) (by rw [Int.toNat_of_nonneg e1.2]; exact h2)
  simp only [firstV, first4, fst3, d1, Option.map_some, Option.bind_some, e1.1, d2, e2.1, d3, Option.map_none]
theorem first_ok (d1 : f 1 0 = some n1) (h1 : n1 < 0 ∧ r1 = 1 ∨ ¬ n1 < 0 ∧ r1 = 0) (d2 : f 2 r1.toNat = some n2) (h2 : n2 < 0 ∧ r2 = 2 ∨ ¬ n2 < 0 ∧ r2 = r1) (d3 : f 3 r2.toNat = some n3) (h3 : n3 < 0 ∧ r3 = 3 ∨ ¬ n3 < 0 ∧ r3 = r2) : firstV f = r3 := by
  have e1 := fst_nat (k := 1) (b := 0) h1
  have e2 := fst_nat (k := 2) (b := r1.toNat) (r := r2) (by rw [Int.toNat_of_nonneg e1.2]; exact h2)
  have e3 := fst_nat (k := 3) (b := r2.toNat) (r := r3) (by rw [Int.toNat_of_nonneg e2.2]; exact h3)
  simp only [firstV, first4, fst3, d1, Option.map_some, Option.bind_some, e1.1, d2, e2.1, d3, e3.1]
  exact Int.toNat_of_nonneg e3.2
end
end
section
theorem fill_Fi : PySem.Challenge.rw_ij0136_01 = PySem.Challenge.rw_ij0136_01 ∧ pre.heap_1 = pre.heap_1 := by
  k_with_none
  k_with "my rel" => (repeat' (first | (k_unfold; (try dsimp only)) | walk1 | walk_at "my next" | (dsimp only; walk1) | (leave1; try dsimp only) | fail "no step"))
  k_with "my room" => (((try simp only [depth_mark, depth_under_make, depth_under_kw, depth_in1, depth_deeper, depth_caller]); (try dsimp only [ar]); omega))
  k_with "my units" => ((have hcL9 := cLine_is; (try simp only [units_in1, units_deeper, Around.mark_units, units_caller]); (try dsimp only [ar]); omega))
  k_with "my unf" => ((refine' enter ?k1 ?k2 ?k3 ?k4 ?k6 ?k7 ?k8 ?k9 ?kB ?_ ?c2 ?c3 ?c4 ?c5; (case k1 => assumption); (case k2 => assumption); (case k3 => assumption); (case k4 => assumption); (case k6 => k_is); (case k7 => k_is); (case k8 => k_room); (case k9 => first | exact BindsTo.of_eq rfl | exact binds_K (Frag.In.keeps (by assumption) (Below.stays (by assumption))) rfl (by k_is) rfl rfl rfl); (case c5 => decide); (case kB => exact locs rfl); (case c2 => exact rfl); (case c3 => exact rfl); (case c4 => exact rfl); k_whole; intro g' L' h' G' F' N' B' X' T'; (try simp only [List.map_cons, List.map_nil] at G'); (try dsimp only); (try k_fold)))
  k_with "subscriptTail Attribute Name Slice str ref" => (((with_reducible rename Fr _ _ _ _ => F'); (with_reducible rename News _ _ _ _ => N'); (refine slice_strN_ss (hsz := ?hsz) (s := ⟨_, _, _, _, _⟩) F' N' ?_); (case hsz => (rw [sizeLine_eq]; omega)); intro h' t' tk' F' N'; (try k_sweep)))
  k_with "subscriptTail BinOp Subscript Add Constant Slice str ref" => (((with_reducible rename Fr _ _ _ _ => F'); (with_reducible rename News _ _ _ _ => N'); (refine slice_strN_ns (hsz := ?hsz) (s := ⟨_, _, _, _, _⟩) F' N' ?_); (case hsz => exact size_sl (by with_reducible assumption)); intro h' t' tk' F' N'; (try k_sweep)))
  k_with "call builtin:str.find" => (refine find4 ?_)
  k_with "my apart" => (repeat' (first | (refine List.forall_mem_cons.2 ⟨⟨?_, ?_⟩, ?_⟩) | exact List.forall_mem_nil _ | with_reducible assumption | (apply Ne.symm; with_reducible assumption)))
  k_with "binaryOp Add str str" => (((refine add_str (hsz := size_slc (by with_reducible assumption)) ?_); intro _ _))
  k_with "my next" => (with_reducible first | refine trq_b ?_ | refine ifq_t ?_ | refine ifq_f ?_ | refine ifq ?_ | refine trq ?_ | refine nx_next (by assumption) ?_ | refine nx_ret (by assumption) ?_ | refine nx_brk (by assumption) ?_ | refine nx_cont (by assumption) ?_)
  k_with "eval Constant int" => (((with_reducible refine int_T ?_); intro t' tk'))
  k_with "eval Constant str" => (((with_reducible refine str_T ?_); intro t' tk'))
  k_with "my nth" => (with_reducible first | exact nth_0 | exact nth_1 | exact nth_2 | exact nth_3 | exact nth_4 | exact nth_5 | exact nth_6)
  k_with "my ne" => (first | with_reducible assumption | exact Ne.symm (by with_reducible assumption) | k_ne)
  k_with "my allne" => (first | with_reducible exact all_nil | (refine' all_cons ?a ?b; (case a => walk_at "my ne"); (case b => walk_at "my allne")))
  k_with "my upd" => (first | (refine' upd_head ?a; (case a => walk_at "my allne")) | (refine' upd_tail ?a ?b; (case a => walk_at "my ne"); (case b => walk_at "my upd")))
  k_with "eval Name" => ((k_here; (with_reducible first | show wpAny _ _ (PySem.eval _ (envOf _ _ _ _ _)) _ _ _ | show wpAny _ _ (PySem.eval _ (envX _ _ _ _ _ _)) _ _ _); k_dflt (refine' name_T ?F ?v ?o ?_; (case F => k_asm); (case o => exact rfl); (case v => rfl); k_whole)))
  k_with "eval Attribute Name" => ((k_here; (with_reducible first | show wpAny _ _ (PySem.eval _ (envOf _ _ _ _ _)) _ _ _ | show wpAny _ _ (PySem.eval _ (envX _ _ _ _ _ _)) _ _ _); k_dflt (refine' own_T ?F ?x ?lo ?X ?N ?h1 ?h2 ?ok ?ho ?hl ?hv ?_; (case F => k_asm); (case lo => exact rfl); (case x => exact rfl); (case X => k_asm); (case N => k_asm); (case h1 => walk_at "my nth"); (case h2 => walk_at "my nth"); (case ok => (intro P9; kernel_rfl)); (case ho => first | exact rfl | walk_at "my isD"); (case hl => first | k_get | walk_at "my getl"); (case hv => first | exact rfl | k_handed); k_whole); intro tk'))
  k_with "getAttr ref" => ((k_here; k_dflt (refine' get_T ?F ?X ?N ?h1 ?h2 ?ok ?ho ?hl ?hv ?_; (case F => k_asm); (case X => k_asm); (case N => k_asm); (case h1 => walk_at "my nth"); (case h2 => walk_at "my nth"); (case ok => (intro P9; kernel_rfl)); (case ho => first | exact rfl | walk_at "my isD"); (case hl => first | k_get | walk_at "my getl"); (case hv => first | exact rfl | k_handed); k_whole); intro tk'))
  k_with "storeName" => ((k_here; (with_reducible first | show wpAny _ _ (PySem.storeName (envOf _ _ _ _ _)  _ _) _ _ _ | show wpAny _ _ (PySem.storeName (envX _ _ _ _ _ _)  _ _) _ _ _); k_dflt (refine' store_T ?F ?N ?o ?_; (case F => k_asm); (case N => k_asm); (case o => exact rfl); k_whole); intro h' tk' F' N'; (try k_sweep)))
  k_with "setAttr ref" => ((k_here; k_dflt (refine' set_T ?F ?X ?N ?h1 ?h2 ?ok ?e ?U ?_; (case F => k_asm); (case X => k_asm); (case N => k_asm); (case h1 => walk_at "my nth"); (case h2 => walk_at "my nth"); (case ok => (intro P9; kernel_rfl)); (case e => walk_at "my puts"); (case U => walk_at "my upd"); k_whole); intro h' tk' F' N'; (try k_sweep)))
  k_with "ite" => (first | with_reducible refine ite_tt ?_ | with_reducible refine ite_ff ?_)
  k_with "my ofb" => (with_reducible first | exact Nat.ne_of_beq_eq_false rfl | exact off1 | exact ffo1 | exact off2 | exact ffo2 | exact off3 | exact ffo3 | exact off4 | exact ffo4 | exact off5 | exact ffo5 | exact off6 | exact ffo6)
  k_with "my off" => (with_reducible first | walk_at "my ofb" | (refine strip ?_; first | walk_at "my ofb" | (refine strip ?_; first | walk_at "my ofb" | (refine strip ?_; first | walk_at "my ofb" | (refine strip ?_; first | walk_at "my ofb" | (refine strip ?_; walk_at "my ofb"))))))
  k_with "my omega" => (with_reducible first | (show _ < _; first | exact room (by assumption) rfl | exact room0 (by assumption) | exact room2 (by assumption) rfl | exact room3 (by assumption) rfl | exact room4 (by assumption) rfl | exact room5 (by assumption) rfl | exact lt_ble rfl | exact om_i63' (by assumption) rfl | exact om_i63 (by assumption) rfl | exact Nat.succ_lt_succ (by assumption) | exact Nat.lt_of_succ_lt_succ (by assumption) | exact Int.ofNat_lt.2 (by assumption) | exact Int.ofNat_lt.1 (by assumption)) | (show _ ≤ _; first | exact Nat.le_of_ble_eq_true rfl | exact Nat.le_refl _ | exact Nat.le_succ _ | exact Nat.le_add_right _ _ | exact om_ltle (by assumption) rfl | exact om_le (by assumption) rfl | exact Nat.le_of_lt (by assumption) | exact Int.ofNat_le.2 (by assumption) | exact Int.natCast_nonneg _ | exact Int.ofNat_le.1 (by assumption) | exact om_addl rfl) | (show _ ≠ _; first | walk_at "my off" | exact om_nne (by assumption)) | (show _ = _; first | exact om_nn (by assumption)) | (show False; first | exact no3 (by assumption) | exact no4 (by assumption) | exact no5 (by assumption) | exact no6 (by assumption)) | fail "no")
  k_with "my cmp" => (((case F => k_asm); (case o => exact rfl); (case v => rfl)))
  k_with "isTrue Compare" => (first | (k_here; (with_reducible first | show wpAny _ _ (isTrue _ (envOf _ _ _ _ _) _) _ _ _ | show wpAny _ _ (isTrue _ (envX _ _ _ _ _ _) _) _ _ _); first | ((with_reducible show wpAny _ _ (isTrue (.Compare (.Name _ _) [_] [.Constant (.str _) _ _] _) _ _) _ _ _); k_dflt (refine' cmp_s ?F ?v ?o ?_ ?m; walk_at "my cmp"; (case m => with_unfolding_all rfl); k_whole; intro t' tk')) | ((with_reducible show wpAny _ _ (isTrue (.Compare (.Name _ _) [_] [.Constant (.int _) _ _] _) _ _) _ _ _); k_dflt (refine' cmp_i ?F ?v ?o ?_ ?m; walk_at "my cmp"; (case m => with_unfolding_all rfl); k_whole; intro t' tk')) | ((with_reducible show wpAny _ _ (isTrue (.Compare (.Name _ _) [_] [.Constant .none _ _] _) _ _) _ _ _); k_dflt (refine' cmp_n ?F ?v ?o ?_ ?m; walk_at "my cmp"; (case m => with_unfolding_all rfl); k_whole)) | ((with_reducible show wpAny _ _ (isTrue (.Compare (.Name _ _) [_] [.Name _ _] _) _ _) _ _ _); k_dflt (refine' cmp_nn ?F ?v ?o ?u ?p ?_ ?m; walk_at "my cmp"; (case p => exact rfl); (case u => rfl); (case m => with_unfolding_all rfl); k_whole))) | with_reducible refine cmp_1 ?_)
  k_with "my puts" => (first | with_reducible exact lex_state | with_reducible exact lex_token | with_reducible exact lex_line | with_reducible exact sio_pos)
  k_with "ite" => (first | with_reducible refine ite_tt ?_ | with_reducible refine ite_ff ?_)
  k_with "my idx" => (first | with_reducible assumption | k_dflt (exact idx0) | k_dflt (exact idx1) | k_dflt (exact idx2) | k_dflt (exact idx3) | k_dflt (exact idxm) | k_dflt (exact idx_of (by omega) (by omega)))
  k_with "call ref" => (((with_reducible show wpAny _ _ (call (Value.ref 794) _) _ _ _); (try dsimp only [List.cons_append, List.nil_append]); (with_reducible rename Fr _ _ _ _ => F'); (with_reducible rename News _ _ _ _ => N'); (with_reducible rename RowsS _ _ _ _ _ _ => D9'); (refine' k_due ?B F' N' ?X ?T rfl rfl (RowsS.keeps D9' (Fr.keep F')) ?i ?j ?dp ?un ?_ ?_; (case B => with_reducible assumption); (case X => with_reducible assumption); (case T => with_reducible assumption); (case i => walk_at "my idx"); (case j => walk_at "my idx"); (case dp => omega); (case un => omega)); all_goals (first | intro n' t' h' tk' e1' F' N' K9' | intro e1' h' tk' F' N' K9'); all_goals (clear K9'); (try k_sweep)))
  k_with "pyIter ref" => (((with_reducible show wpAny _ _ (pyIter (Value.ref _)) (fun it s₂ => LoopAtV _ _ _ _ _ _ _ _ _ it s₂) _ _); k_rangeUnr))
  k_fill
  exact ⟨rfl, rfl⟩
theorem c_first {base : Heap} {s : Shared} {R : Result → Shared → Prop} {rows torn : Addr} {ra : Nat → Addr} {rk : Nat → List Nat} {tn : Nat → Bool}
    (B : Below (ar dp un gd outs) base outs s.heap) (X : (pre.heap_1 w.params).In base) (TT : Top p loose mean mg mb base)
    (V : Free base outs s.heap []) (hdp : dp + 45 < recursionLimit) (hu : un + 215 < cLine) (D : RowsS s.heap rows torn ra rk tn)
    (ret : ∀ v h' tk' tk2, v = firstV (fun a b => due (rk a) (tn a) (rk b) (tn b)) → Kept [] s.heap h' → R (.ok (.ret (.int v tk2))) { s with heap := h', toks := tk' }) :
    codeAny (model PG w) (ar dp un gd outs) (.call (.ref 801) ⟨[.ref rows, .ref torn], []⟩) R s := by
  k_dflt ktr_unf
  with_reducible rename Kept _ _ _ => K'
  have D' := D.keeps fun b o e => K' b o e List.not_mem_nil
  clear D
  ktr_rel
  all_goals (repeat' (first | k_unfold | dsimp only))
  all_goals (with_reducible rename Fr _ _ _ _ => F')
  · exact ret _ _ _ _ (first_b1 (by assumption)).symm (kept_of K' F')
  · exact ret _ _ _ _ (first_b2 (by assumption) (by assumption) (by assumption)).symm (kept_of K' F')
  · exact ret _ _ _ _ (first_b3 (by assumption) (by assumption) (by assumption) (by assumption) (by assumption)).symm (kept_of K' F')
  · exact ret _ _ _ _ (first_ok (by assumption) (by assumption) (by assumption) (by assumption) (by assumption) (by assumption)).symm (kept_of K' F')
end
section
open PySem.W.X PySem.Builtin
set_option autoImplicit false
section
variable {w : World} {A : Around} {E : Value → Shared → Prop} {s : Shared} {h₀ : Heap} {L : Addr} {m : Str → Option Value} {news : List (Addr × Obj)} {env : Env}
theorem strs_paired {f : Nat → Str} : ∀ {vs ys : List Value} {cs : List Nat}, vs.length = cs.length → (∀ (j : Nat) (v : Value), vs[j]? = some v → ∃ (c : Nat) (u : Tok), cs[j]? = some c ∧ v = .str ⟨#[c]⟩ u) →
    Paired (fun v r => ∃ (c : Nat) (u t : Tok), v = Value.str ⟨#[c]⟩ u ∧ r = Value.str (f c) t) vs ys → StrsAre ys (cs.map f) := by
  intro vs
  induction vs with
  | nil =>
    intro ys cs hl _ p
    cases p
    cases cs with
    | nil => exact .nil
    | cons c cs => cases hl
  | cons v vs ih =>
    intro ys cs hl hv p
    cases cs with
    | nil => cases hl
    | cons c cs =>
      cases p with
      | cons hF p =>
        obtain ⟨c', u, t, rfl, rfl⟩ := hF
        obtain ⟨c2, u2, hc, e⟩ := hv 0 _ rfl
        cases hc
        cases e
        exact .cons _ _ (ih (by simpa using hl) (fun j v hj => hv (j + 1) v hj) p)
theorem ListComp_s1 {elt iter : Expr} {x : Str} {px : Pos} {scope : Scope} {pos : Pos} {Q : Value → Shared → Prop} {f : Nat → Str} (_F : Fr h₀ L s.heap m) (_N : News h₀ L s.heap news)
    (hh : A.handled = none) (hfree : ∀ y ∈ scope.names, y.2 ≠ .free) (hcell : ∀ y ∈ scope.names, y.2 ≠ .cell) (hkind : scope.kind = .function)
    (hnames : ∀ y ∈ scope.names, y.2 = .local → scope.names.lookup y.1 = some .local) (hx : scope.names.lookup x = some .local)
    (h : wpAny (model PG w) A (eval iter env) (fun xv s₁ => ∃ y t, xv = .str y t ∧ y.length ≤ sizeLine ∧ Fr h₀ L s₁.heap m ∧ News h₀ L s₁.heap news ∧
      (∀ C c u s₂ m₂ E', s₂.heap.Ns (compEnv scope C env).locals m₂ → m₂ x = some (.str ⟨#[c]⟩ u) → wpAny (model PG w) A (eval elt (compEnv scope C env)) (fun r s₃ => (∃ t, r = .str (f c) t) ∧ Keeps s₂ s₃) E' s₂) ∧
      (∀ D (ys : List Value) h' tk, Fr h₀ L h' m → News h₀ L h' news → h'.IsList D ys.toArray → StrsAre ys (y.cps.toList.map f) → Q (.ref D) { s₁ with heap := h', toks := tk })) E s)
    (hs : ∀ x, foldedSetIterable iter env x = pure x) :
    wpAny (model PG w) A (eval (.ListComp elt [⟨.Name x px, iter, [], 0⟩] scope pos) env) Q E s := by
  refine wpAny_ListComp_walk (fun _ => true) (fun v r => ∃ (c : Nat) (u t : Tok), v = Value.str ⟨#[c]⟩ u ∧ r = Value.str (f c) t) hfree hcell hkind hnames hx
    (wpAny_mono h (fun xv s₁ h₁ => ?_) fun _ _ e => e) hs
  obtain ⟨y, t, rfl, hsz, F, N, helt, hQ⟩ := h₁
  refine wpAny_pyIter_str fun o St W hst => ?_
  have up : ∀ (h' : Heap), (∀ b o', b ∉ [s₁.heap.objs.size] → (s₁.heap.push o).get? b = some o' → h'.get? b = some o') → ∀ b o', s₁.heap.get? b = some o' → h'.get? b = some o' :=
    fun h' hk b o' e => hk b o' (old_not_new e) (Heap.get?_push_of_some _ e)
  refine ⟨s₁.heap.objs.size, [s₁.heap.objs.size], [s₁.heap.objs.size], y.cps.size, SignAt y, St, rfl, W A hh, hsz, hst, ?_, ⟨?_, ?_⟩, ?_⟩
  · intro b hb
    show b < (s₁.heap.push o).objs.size
    rw [Heap.size_push, List.mem_singleton.mp hb]
    exact Nat.lt_succ_self _
  · intro C i v s₃ m₃ E' hP hn hm _ _
    rw [List.forIn_nil]
    exact wpAny_pure ⟨rfl, s₃.heap, s₃.toks, rfl, fun _ _ e => e⟩
  · intro C i v s₃ m₃ E' hP hp hn hm _ _
    obtain ⟨c, u, _, rfl⟩ := hP
    exact wpAny_mono (helt C c u s₃ m₃ E' hn hm) (fun r s₄ h₄ => ⟨(let ⟨t, e⟩ := h₄.1; ⟨c, u, t, rfl, e⟩), h₄.2⟩) fun _ _ e => e
  · intro D h' tk ys vs hnew hlD hplD hlen hP hF hk
    refine hQ D ys.toList h' tk (F.keeps (up h' hk)) (N.grown (up h' hk)) (by rw [Array.toArray_toList]; exact hlD) (strs_paired (vs := vs) (by rw [hlen, Array.length_toList]) (fun j v hj => ?_) (by rw [List.filter_eq_self.mpr (fun _ _ => rfl)] at hF; exact hF))
    obtain ⟨c, u, hc, rfl⟩ := hP j v hj
    exact ⟨c, u, by rw [Array.getElem?_toList]; exact hc, rfl⟩
end
section
open PySem.Builtin PySem.Builtin.Str
variable {w : World} {A : Around} {E : Value → Shared → Prop} {s : Shared}
noncomputable def replV (x y z : Str) : Str := if ((occurrences x y 0 x.length (x.length + 1)).isEmpty || (y.length == 0 && z.length == 0)) = true then x else glued z (partsBetween x (occurrences x y 0 x.length (x.length + 1)) y.length)
theorem repl {x y z : Str} {t : Tok} {n : Nat} {Q : Value → Shared → Prop} (hyz : (y == z) = false) (hl : tooLong (x.length + (occurrences x y 0 x.length (x.length + 1)).length * z.length) = false) (hs : (replV x y z).length ≤ sizeLine) (h : ∀ t' tk, Q (.str (replV x y z) t') { s with toks := tk }) :
    wpAny (model PG w) A (call (.builtin "str.replace") [.str x t, .str y (n + 1), .str z (n + 1 + 1)]) Q E s := by
  refine call_gives PySem.F.slot_str_replace (typeIs_str _ _ _) PySem.F.entry_str_replace (PySem.F.args_str_replace_3 _ _ _) (gives_str_replace x y z t (n + 1) (n + 1 + 1) fun _ => ⟨by simp, by simp, hyz, hl⟩) ?_
  unfold replV at h hs
  split
  · rename_i hc
    rw [if_pos hc] at h
    exact h t s.toks
  · rename_i hc
    rw [if_neg hc] at h hs
    exact ⟨hs, h _ _⟩
noncomputable def ReplOk (x y z : Str) : Prop := (y == z) = false ∧ tooLong (x.length + (occurrences x y 0 x.length (x.length + 1)).length * z.length) = false ∧ (replV x y z).length ≤ 1000
theorem repl2 {x y z : Str} {t : Tok} {n : Nat} {Q : Value → Shared → Prop} (h1 : ReplOk x y z) (h : ∀ t' tk, Q (.str (replV x y z) t') { s with toks := tk }) :
    wpAny (model PG w) A (call (.builtin "str.replace") [.str x t, .str y (n + 1), .str z (n + 1 + 1)]) Q E s := repl h1.1 h1.2.1 (by rw [sizeLine_eq]; exact om_1000 h1.2.2) h
end
theorem esc_step {s n l : Nat} (h : s + n = 3 * l) : 2 + s + (n + 1) = 3 * (l + 1) := by
  rw [Nat.add_comm 2 s]
  exact ((Nat.add_assoc s 2 (n + 1)).trans ((congrArg (s + ·) (Nat.add_comm 2 (n + 1))).trans (Nat.add_assoc s n 3).symm)).trans (congrArg (· + 3) h)
theorem esc_sum {p : Str} (hp : p.length = 1) : ∀ l : List Nat, ((l.map fun c => p ++ (⟨#[c]⟩ : Str)).map (·.length)).sum + (l.map fun c => p ++ (⟨#[c]⟩ : Str)).length = 3 * l.length := by
  intro l
  induction l with
  | nil => rfl
  | cons c l ih =>
    have e : (p ++ (⟨#[c]⟩ : Str)).length = 2 := by rw [Str.length_append, hp]; rfl
    simp only [List.map_cons, List.sum_cons, List.length_cons, e]
    exact esc_step ih
end
section
theorem fill_Wr : PySem.Challenge.rw_ij0136_01 = PySem.Challenge.rw_ij0136_01 ∧ pre.heap_1 = pre.heap_1 := by
  k_with_none
  k_with "my rel" => (repeat' (first | (k_unfold; (try dsimp only)) | walk1 | walk_at "my next" | (dsimp only; walk1) | (leave1; try dsimp only) | fail "no step"))
  k_with "my room" => (((try simp only [depth_mark, depth_under_make, depth_under_kw, depth_in1, depth_deeper, depth_caller]); (try dsimp only [ar]); omega))
  k_with "my units" => ((have hcL9 := cLine_is; (try simp only [units_in1, units_deeper, Around.mark_units, units_caller]); (try dsimp only [ar]); omega))
  k_with "my unf" => ((refine' enter ?k1 ?k2 ?k3 ?k4 ?k6 ?k7 ?k8 ?k9 ?kB ?_ ?c2 ?c3 ?c4 ?c5; (case k1 => assumption); (case k2 => assumption); (case k3 => assumption); (case k4 => assumption); (case k6 => k_is); (case k7 => k_is); (case k8 => k_room); (case k9 => first | exact BindsTo.of_eq rfl | exact binds_K (Frag.In.keeps (by assumption) (Below.stays (by assumption))) rfl (by k_is) rfl rfl rfl); (case c5 => decide); (case kB => exact locs rfl); (case c2 => exact rfl); (case c3 => exact rfl); (case c4 => exact rfl); k_whole; intro g' L' h' G' F' N' B' X' T'; (try simp only [List.map_cons, List.map_nil] at G'); (try dsimp only); (try k_fold)))
  k_with "subscriptTail Attribute Name Slice str ref" => (((with_reducible rename Fr _ _ _ _ => F'); (with_reducible rename News _ _ _ _ => N'); (refine slice_strN_ss (hsz := ?hsz) (s := ⟨_, _, _, _, _⟩) F' N' ?_); (case hsz => (rw [sizeLine_eq]; omega)); intro h' t' tk' F' N'; (try k_sweep)))
  k_with "subscriptTail BinOp Subscript Add Constant Slice str ref" => (((with_reducible rename Fr _ _ _ _ => F'); (with_reducible rename News _ _ _ _ => N'); (refine slice_strN_ns (hsz := ?hsz) (s := ⟨_, _, _, _, _⟩) F' N' ?_); (case hsz => exact size_sl (by with_reducible assumption)); intro h' t' tk' F' N'; (try k_sweep)))
  k_with "call builtin:str.find" => (refine find4 ?_)
  k_with "my apart" => (repeat' (first | (refine List.forall_mem_cons.2 ⟨⟨?_, ?_⟩, ?_⟩) | exact List.forall_mem_nil _ | with_reducible assumption | (apply Ne.symm; with_reducible assumption)))
  k_with "binaryOp Add str str" => (((refine add_str (hsz := size_slc (by with_reducible assumption)) ?_); intro _ _))
  k_with "execs cons" => (((try dsimp only); first | (with_reducible refine nx_last ?_) | ((with_reducible refine nx_cons ?_); intro q' nx')))
  k_with "execs nil" => (with_reducible refine wpAny_execs_nil ?_)
  k_with "my next" => (with_reducible first | refine trq_b ?_ | refine ifq_t ?_ | refine ifq_f ?_ | refine ifq ?_ | refine trq ?_ | refine nx_next (by assumption) ?_ | refine nx_ret (by assumption) ?_ | refine nx_brk (by assumption) ?_ | refine nx_cont (by assumption) ?_)
  k_with "my nth" => (with_reducible first | exact nth_0 | exact nth_1 | exact nth_2 | exact nth_3 | exact nth_4 | exact nth_5 | exact nth_6)
  k_with "my ne" => (first | with_reducible assumption | exact Ne.symm (by with_reducible assumption) | k_ne)
  k_with "my allne" => (first | with_reducible exact all_nil | (refine' all_cons ?a ?b; (case a => walk_at "my ne"); (case b => walk_at "my allne")))
  k_with "my upd" => (first | (refine' upd_head ?a; (case a => walk_at "my allne")) | (refine' upd_tail ?a ?b; (case a => walk_at "my ne"); (case b => walk_at "my upd")))
  k_with "eval Name" => ((k_here; (with_reducible first | show wpAny _ _ (PySem.eval _ (envOf _ _ _ _ _)) _ _ _ | show wpAny _ _ (PySem.eval _ (envX _ _ _ _ _ _)) _ _ _); k_dflt (refine' name_T ?F ?v ?o ?_; (case F => k_asm); (case o => exact rfl); (case v => rfl); k_whole)))
  k_with "ite" => (first | with_reducible refine ite_tt ?_ | with_reducible refine ite_ff ?_)
  k_with "my ofb" => (with_reducible first | exact Nat.ne_of_beq_eq_false rfl | exact off1 | exact ffo1 | exact off2 | exact ffo2 | exact off3 | exact ffo3 | exact off4 | exact ffo4 | exact off5 | exact ffo5 | exact off6 | exact ffo6)
  k_with "my off" => (with_reducible first | walk_at "my ofb" | (refine strip ?_; first | walk_at "my ofb" | (refine strip ?_; first | walk_at "my ofb" | (refine strip ?_; first | walk_at "my ofb" | (refine strip ?_; first | walk_at "my ofb" | (refine strip ?_; walk_at "my ofb"))))))
  k_with "my omega" => (with_reducible first | (show _ < _; first | exact room (by assumption) rfl | exact room0 (by assumption) | exact room2 (by assumption) rfl | exact room3 (by assumption) rfl | exact room4 (by assumption) rfl | exact room5 (by assumption) rfl | exact lt_ble rfl | exact om_i63' (by assumption) rfl | exact om_i63 (by assumption) rfl | exact Nat.succ_lt_succ (by assumption) | exact Nat.lt_of_succ_lt_succ (by assumption) | exact Int.ofNat_lt.2 (by assumption) | exact Int.ofNat_lt.1 (by assumption)) | (show _ ≤ _; first | exact Nat.le_of_ble_eq_true rfl | exact Nat.le_refl _ | exact Nat.le_succ _ | exact Nat.le_add_right _ _ | exact om_ltle (by assumption) rfl | exact om_le (by assumption) rfl | exact Nat.le_of_lt (by assumption) | exact Int.ofNat_le.2 (by assumption) | exact Int.natCast_nonneg _ | exact Int.ofNat_le.1 (by assumption) | exact om_addl rfl) | (show _ ≠ _; first | walk_at "my off" | exact om_nne (by assumption)) | (show _ = _; first | exact om_nn (by assumption)) | (show False; first | exact no3 (by assumption) | exact no4 (by assumption) | exact no5 (by assumption) | exact no6 (by assumption)) | fail "no")
  k_with "my cmp" => (((case F => k_asm); (case o => exact rfl); (case v => rfl)))
  k_with "isTrue Compare" => (first | (k_here; (with_reducible first | show wpAny _ _ (isTrue _ (envOf _ _ _ _ _) _) _ _ _ | show wpAny _ _ (isTrue _ (envX _ _ _ _ _ _) _) _ _ _); first | ((with_reducible show wpAny _ _ (isTrue (.Compare (.Name _ _) [_] [.Constant (.str _) _ _] _) _ _) _ _ _); k_dflt (refine' cmp_s ?F ?v ?o ?_ ?m; walk_at "my cmp"; (case m => with_unfolding_all rfl); k_whole; intro t' tk')) | ((with_reducible show wpAny _ _ (isTrue (.Compare (.Name _ _) [_] [.Constant (.int _) _ _] _) _ _) _ _ _); k_dflt (refine' cmp_i ?F ?v ?o ?_ ?m; walk_at "my cmp"; (case m => with_unfolding_all rfl); k_whole; intro t' tk')) | ((with_reducible show wpAny _ _ (isTrue (.Compare (.Name _ _) [_] [.Constant .none _ _] _) _ _) _ _ _); k_dflt (refine' cmp_n ?F ?v ?o ?_ ?m; walk_at "my cmp"; (case m => with_unfolding_all rfl); k_whole)) | ((with_reducible show wpAny _ _ (isTrue (.Compare (.Name _ _) [_] [.Name _ _] _) _ _) _ _ _); k_dflt (refine' cmp_nn ?F ?v ?o ?u ?p ?_ ?m; walk_at "my cmp"; (case p => exact rfl); (case u => rfl); (case m => with_unfolding_all rfl); k_whole))) | with_reducible refine cmp_1 ?_)
  k_with "exec If" => (with_reducible refine if_T ?_)
  k_with "my puts" => (first | with_reducible exact lex_state | with_reducible exact lex_token | with_reducible exact lex_line | with_reducible exact sio_pos)
  k_with "ite" => (first | with_reducible refine ite_tt ?_ | with_reducible refine ite_ff ?_)
  k_with "my omega" => (with_reducible first | (show _ ≤ _; first | exact om_1a (by assumption) | exact om_1b (by assumption)) | fail "no")
  k_fill
  exact ⟨rfl, rfl⟩
noncomputable def wordS : Nat → Str
  | 0 => Str.ofString "b"
  | 1 => Str.ofString ""
  | 2 => Str.ofString "it's"
  | 3 => Str.ofString "a b"
  | _ => Str.ofString "#\\"
theorem len_q : (Str.ofString "'").length = 1 := by decide +kernel
theorem len_d : (Str.ofString "\"").length = 1 := by decide +kernel
theorem len_b : (Str.ofString "\\").length = 1 := by decide +kernel
theorem len_c (c : Nat) : (⟨#[c]⟩ : Str).length = 1 := rfl
theorem lines_Wr_0 : True := by
  k_with "call builtin:str.replace" => ((refine repl2 (by with_reducible assumption) ?_; intro _ _))
  k_with "binaryOp Add str str" => ((refine add_str (hsz := by (rw [sizeLine_eq]; simp only [Str.length_append, len_q, len_d, len_b, len_c]; omega)) ?_; intro _ _))
  k_with "eval ListComp" => (refine stop_here ?_)
  trivial
theorem c_wr0 {base : Heap} {s : Shared} {R : Result → Shared → Prop} {x : Str} {tx' tw : Tok}
    (h1 : ReplOk x (Str.ofString "'") (Str.ofString "'\\''"))
    (B : Below (ar dp un gd outs) base outs s.heap) (X : (pre.heap_1 w.params).In base) (TT : Top p loose mean mg mb base)
    (V : Free base outs s.heap []) (hdp : dp + 40 < recursionLimit) (hu : un + 200 < cLine)
    (ret : ∀ h' tk' t, Kept [] s.heap h' → R (.ok (.ret (.str (Str.ofString "'" ++ replV x (Str.ofString "'") (Str.ofString "'\\''") ++ Str.ofString "'") t))) { s with heap := h', toks := tk' }) :
    codeAny (model PG w) (ar dp un gd outs) (.call (.ref 747) ⟨[.str x tx', .int 0 tw], []⟩) R s := by
  have h2 := h1.2.2
  k_dflt ktr_unf
  with_reducible rename Kept _ _ _ => K'
  ktr_rel
  all_goals (repeat' (first | k_unfold | dsimp only))
  with_reducible rename Fr _ _ _ _ => F'
  exact ret _ _ _ (kept_of K' F')
theorem c_wr1 {base : Heap} {s : Shared} {R : Result → Shared → Prop} {x : Str} {tx' tw : Tok}
    (h1 : ReplOk x (Str.ofString "\\") (Str.ofString "\\\\"))
    (B : Below (ar dp un gd outs) base outs s.heap) (X : (pre.heap_1 w.params).In base) (TT : Top p loose mean mg mb base)
    (V : Free base outs s.heap []) (hdp : dp + 40 < recursionLimit) (hu : un + 200 < cLine)
    (ret : ∀ h' tk' t, Kept [] s.heap h' → R (.ok (.ret (.str (Str.ofString "\"" ++ replV x (Str.ofString "\\") (Str.ofString "\\\\") ++ Str.ofString "\"") t))) { s with heap := h', toks := tk' }) :
    codeAny (model PG w) (ar dp un gd outs) (.call (.ref 747) ⟨[.str x tx', .int 1 tw], []⟩) R s := by
  have h2 := h1.2.2
  k_dflt ktr_unf
  with_reducible rename Kept _ _ _ => K'
  ktr_rel
  all_goals (repeat' (first | k_unfold | dsimp only))
  with_reducible rename Fr _ _ _ _ => F'
  exact ret _ _ _ (kept_of K' F')
theorem c_wr2 {base : Heap} {s : Shared} {R : Result → Shared → Prop} {x : Str} {tx' tw : Tok}
    (hx : (x != Str.ofString "") = true) (h2 : x.length ≤ 1000)
    (B : Below (ar dp un gd outs) base outs s.heap) (X : (pre.heap_1 w.params).In base) (TT : Top p loose mean mg mb base)
    (V : Free base outs s.heap []) (hdp : dp + 40 < recursionLimit) (hu : un + 200 < cLine)
    (ret : ∀ h' tk' t, Kept [] s.heap h' → R (.ok (.ret (.str (Txt.join (Str.ofString "") (x.cps.toList.map fun c => Str.ofString "\\" ++ ⟨#[c]⟩)) t))) { s with heap := h', toks := tk' }) :
    codeAny (model PG w) (ar dp un gd outs) (.call (.ref 747) ⟨[.str x tx', .int 2 tw], []⟩) R s := by
  k_dflt ktr_unf
  with_reducible rename Kept _ _ _ => K'
  ktr_rel
  · unfold Stop
    with_reducible rename Fr _ _ _ _ => F'
    with_reducible rename News _ _ _ _ => N'
    refine ListComp_s1 F' N' (f := fun c => Str.ofString "\\" ++ ⟨#[c]⟩) rfl (by decide) (by decide) rfl (by decide) rfl ?_ (by intro _; rfl)
    ktr_rel
    · exact F'
    · exact N'
    · exact ⟨_, _, rfl, fun _ _ e => e⟩
    · with_reducible rename StrsAre _ _ => hs
      with_reducible rename Heap.IsList _ _ _ => hl
      refine join_listW hl (by simpa using hs) (by decide +kernel) ?_ ?_
      · rw [esc_sum len_b]
        have : x.cps.toList.length = x.length := by rw [Array.length_toList]; rfl
        rw [this]
        exact Nat.le_trans (Nat.mul_le_mul_left 3 (by assumption)) (Nat.le_of_ble_eq_true rfl)
      · intro t' tk'
        dsimp only
        all_goals (repeat' (first | k_unfold | dsimp only))
        ktr_rel
        all_goals (repeat' (first | k_unfold | dsimp only))
        with_reducible rename Fr _ _ _ _ => F'
        exact ret _ _ _ (kept_of K' F')
theorem c_wr3 {base : Heap} {s : Shared} {R : Result → Shared → Prop} {x : Str} {tx' tw : Tok}
    (hx : (x != Str.ofString "") = false)
    (B : Below (ar dp un gd outs) base outs s.heap) (X : (pre.heap_1 w.params).In base) (TT : Top p loose mean mg mb base)
    (V : Free base outs s.heap []) (hdp : dp + 40 < recursionLimit) (hu : un + 200 < cLine)
    (ret : ∀ h' tk' t, Kept [] s.heap h' → R (.ok (.ret (.str (Str.ofString "''") t))) { s with heap := h', toks := tk' }) :
    codeAny (model PG w) (ar dp un gd outs) (.call (.ref 747) ⟨[.str x tx', .int 2 tw], []⟩) R s := by
  k_dflt ktr_unf
  with_reducible rename Kept _ _ _ => K'
  ktr_rel
  all_goals (repeat' (first | k_unfold | dsimp only))
  with_reducible rename Fr _ _ _ _ => F'
  exact ret _ _ _ (kept_of K' F')
theorem c_written {base : Heap} {s : Shared} {R : Result → Shared → Prop} {tk tw : Tok} {k way : Nat} (hk : k < 5) (hw : way < 3)
    (B : Below (ar dp un gd outs) base outs s.heap) (X : (pre.heap_1 w.params).In base) (TT : Top p loose mean mg mb base)
    (V : Free base outs s.heap []) (hdp : dp + 40 < recursionLimit) (hu : un + 200 < cLine)
    (ret : ∀ h' tk' t, Kept [] s.heap h' → R (.ok (.ret (.str (tx (written k way)) t))) { s with heap := h', toks := tk' }) :
    codeAny (model PG w) (ar dp un gd outs) (.call (.ref 747) ⟨[.str (wordS k) tk, .int (way : Int) tw], []⟩) R s := by
  have go : ∀ {y : Str}, y = tx (written k way) → (∀ h' tk' t, Kept [] s.heap h' → R (.ok (.ret (.str y t))) { s with heap := h', toks := tk' }) := fun {y} e h' tk' t k => e ▸ ret h' tk' t k
  have r0 : ∀ x ∈ [wordS 0, wordS 1, wordS 2, wordS 3, wordS 4], ReplOk x (Str.ofString "'") (Str.ofString "'\\''") := by unfold ReplOk; decide +kernel
  have r1 : ∀ x ∈ [wordS 0, wordS 1, wordS 2, wordS 3, wordS 4], ReplOk x (Str.ofString "\\") (Str.ofString "\\\\") := by unfold ReplOk; decide +kernel
  have mem : ∀ k, k < 5 → wordS k ∈ [wordS 0, wordS 1, wordS 2, wordS 3, wordS 4] := fun k hk => by
    rcases k with _ | _ | _ | _ | _ | k
    · exact .head _
    · exact .tail _ (.head _)
    · exact .tail _ (.tail _ (.head _))
    · exact .tail _ (.tail _ (.tail _ (.head _)))
    · exact .tail _ (.tail _ (.tail _ (.tail _ (.head _))))
    · exact (no5 hk).elim
  rcases way with _ | _ | _ | way
  · refine c_wr0 (r0 _ (mem k hk)) B X TT V hdp hu (go ?_)
    rcases k with _ | _ | _ | _ | _ | k
    · kernel_rfl
    · kernel_rfl
    · kernel_rfl
    · kernel_rfl
    · kernel_rfl
    · exact (no5 hk).elim
  · refine c_wr1 (r1 _ (mem k hk)) B X TT V hdp hu (go ?_)
    rcases k with _ | _ | _ | _ | _ | k
    · kernel_rfl
    · kernel_rfl
    · kernel_rfl
    · kernel_rfl
    · kernel_rfl
    · exact (no5 hk).elim
  · rcases k with _ | _ | _ | _ | _ | k
    · exact c_wr2 (by decide +kernel) (by decide +kernel) B X TT V hdp hu (go (by kernel_rfl))
    · exact c_wr3 (by decide +kernel) B X TT V hdp hu (go (by kernel_rfl))
    · exact c_wr2 (by decide +kernel) (by decide +kernel) B X TT V hdp hu (go (by kernel_rfl))
    · exact c_wr2 (by decide +kernel) (by decide +kernel) B X TT V hdp hu (go (by kernel_rfl))
    · exact c_wr2 (by decide +kernel) (by decide +kernel) B X TT V hdp hu (go (by kernel_rfl))
    · exact (no5 hk).elim
  · exact (no3 hw).elim
end
section
open PySem.W.X PySem.Builtin
set_option autoImplicit false
section
variable {w : World} {A : Around} {E : Value → Shared → Prop} {s : Shared} {g : Heap} {env : Env} {Q : Flow → Shared → Prop}
noncomputable def ForI (w : World) (A : Around) (E : Value → Shared → Prop) (g : Heap) (env : Env) (Q : Flow → Shared → Prop) (xn : Str) (body : List Stmt) (xv : Value) (s₁ : Shared) : Prop :=
      ∃ (ax : Addr) (vs : List Value) (ns : List Int) (m : Str → Option Value) (news : List (Addr × Obj)) (J : Nat → (Str → Option Value) → List (Addr × Obj) → Prop),
      xv = .ref ax ∧ s₁.heap.IsList ax vs.toArray ∧ IntsAre vs ns ∧ ax ≠ env.locals ∧ Fr g env.locals s₁.heap m ∧ News g env.locals s₁.heap news ∧ J 0 m news ∧
      (∀ i n t m₁ news₁ h₁ tk₁ own I, ns[i]? = some n → J i m₁ news₁ → Fr g env.locals h₁ (fun y => if y = xn then some (.int n t) else m₁ y) → News g env.locals h₁ (own ++ news₁) → (∀ p ∈ news₁, p.1 ∉ [I]) → (∀ p ∈ own, p.1 = I ∨ p.1 = ax) → (∀ p ∈ news, @LT.lt Nat _ p.1 I) →
        ∀ q : Flow → Shared → Prop, (∀ f s', LoopStepV g env.locals [I] own (J (i + 1)) { s₁ with heap := h₁, toks := tk₁ } (fun v s' => Q (.ret v) s') (fun s' => Q .next s') f s' → q f s') → wpAny (model PG w) A (execs body env) q E { s₁ with heap := h₁, toks := tk₁ }) ∧
      (∀ h' tk m' news', Fr g env.locals h' m' → News g env.locals h' news' → J ns.length m' news' → Q .next { s₁ with heap := h', toks := tk })
theorem forI_of {α β : Type} {xn : Str} {body : List Stmt} {s₁ : Shared} {ax : Addr} {vs : List Value} {ns : List Int} {m : Str → Option Value} {news : List (Addr × Obj)} (mf : α → β → Str → Option Value) (nf : α → β → List (Addr × Obj)) (Pr : Nat → α → β → Prop) (a₀ : α) (b₀ : β)
    (hl : s₁.heap.IsList ax vs.toArray) (hv : IntsAre vs ns) (hne : ax ≠ env.locals) (F : Fr g env.locals s₁.heap m) (N : News g env.locals s₁.heap news) (e1 : m = mf a₀ b₀) (e2 : news = nf a₀ b₀) (h0 : Pr 0 a₀ b₀)
    (turn : ∀ i n t a b h₁ tk₁ own I (q : Flow → Shared → Prop), (∀ f s', LoopStepV g env.locals [I] own (fun m n => ∃ a b, m = mf a b ∧ n = nf a b ∧ Pr (i + 1) a b) { s₁ with heap := h₁, toks := tk₁ } (fun v s' => Q (.ret v) s') (fun s' => Q .next s') f s' → q f s') → ns[i]? = some n → Pr i a b →
      Fr g env.locals h₁ (fun y => if y = xn then some (.int n t) else mf a b y) → News g env.locals h₁ (own ++ nf a b) → (∀ p ∈ nf a b, p.1 ∉ [I]) → (∀ p ∈ own, p.1 = I ∨ p.1 = ax) → (∀ p ∈ news, @LT.lt Nat _ p.1 I) → wpAny (model PG w) A (execs body env) q E { s₁ with heap := h₁, toks := tk₁ })
    (fin : ∀ h' tk a b, Fr g env.locals h' (mf a b) → News g env.locals h' (nf a b) → Pr ns.length a b → Q .next { s₁ with heap := h', toks := tk }) : ForI w A E g env Q xn body (.ref ax) s₁ :=
  ⟨ax, vs, ns, m, news, fun i m n => ∃ a b, m = mf a b ∧ n = nf a b ∧ Pr i a b, rfl, hl, hv, hne, F, N, ⟨a₀, b₀, e1, e2, h0⟩, fun i n t m₁ news₁ h₁ tk₁ own I hn hJ F1 N1 ho hw hI q hq => by
    obtain ⟨a, b, rfl, rfl, hz⟩ := hJ
    exact turn i n t a b h₁ tk₁ own I q hq hn hz F1 N1 ho hw hI, fun h' tk m' news' F9 N9 hJ => by
    obtain ⟨a, b, rfl, rfl, hz⟩ := hJ
    exact fin h' tk a b F9 N9 hz⟩
theorem for_ints {xn : Str} {px pos : Pos} {iter : Expr} {body : List Stmt} {m₀ : Str → Option Value} (_F : Fr g env.locals s.heap m₀) (hx : env.kindOf xn = some .local) (hp : (env.scope.kind == .class || (env.scope.kind == .module && env.locals != env.globals)) = false) (hh : A.handled = none)
    (h : wpAny (model PG w) A (eval iter env) (ForI w A E g env Q xn body) E s)
    (hs : ∀ x, foldedSetIterable iter env x = pure x) (hE : PassesOwn (model PG w) A env E) :
    wpAny (model PG w) A (exec (.For (.Name xn px) iter body [] pos) env) Q E s := by
  refine For_invV g hx hp (wpAny_mono h (fun xv s₁ h₁ => ?_) fun _ _ e => e) hs hE
  obtain ⟨ax, vs, ns, m, news, J, rfl, hl, hv, hne, F, N, j0, turn, fin⟩ := h₁
  have hlt : ax < s₁.heap.objs.size := by obtain ⟨_, e, _⟩ := hl; exact Heap.lt_size e
  have hsz : vs.toArray.size = ns.length := by rw [List.size_toArray, hv.length]
  refine wpAny_pyIter_list hl ?_
  have up : ∀ b o, s₁.heap.get? b = some o → (s₁.heap.push { cls := .type "list_iterator", data := .fields #[.ref ax, .int 0 0] }).get? b = some o := fun b o e => Heap.get?_push_of_some _ e
  refine ⟨s₁.heap.objs.size, [s₁.heap.objs.size, ax], [s₁.heap.objs.size], vs.toArray.size, _, _, m, news, J, rfl, Walks.list hh s₁.heap.objs.size ax (Nat.ne_of_lt hlt) vs.toArray, ?_, ?_, ?_, ⟨⟨_, Heap.get?_push_size _ rfl, rfl, rfl⟩, hl.push _⟩, F.keeps up, N.grown up, j0, ?_, ?_⟩
  · intro hm
    rcases List.mem_cons.mp hm with e | hm
    · exact absurd F.ns.lt (e ▸ Nat.lt_irrefl _)
    · exact hne (List.mem_singleton.mp hm).symm
  · intro b hb
    rw [List.mem_singleton.mp hb]
    exact next_is_new F
  · intro q hq hI
    exact absurd (Heap.lt_size (N q hq).1) ((List.mem_singleton.mp hI) ▸ Nat.lt_irrefl _)
  · rintro i v m₁ news₁ s₂ own ⟨h₁, tk₁, rfl⟩ hi hP hJ hoff hown hget hall hst F₁ N₁
    have hv' : vs[i]? = some v := by simpa using hP
    obtain ⟨n, t, rfl, hn⟩ := hv.at i v hv'
    exact turn i n t m₁ news₁ h₁ tk₁ own s₁.heap.objs.size hn hJ F₁ N₁ hoff (fun p hp => by
      rcases List.mem_cons.mp (hown p hp) with e | hm
      · exact .inl e
      · exact .inr (List.mem_singleton.mp hm)) (fun q hq => Heap.lt_size (N q hq).1) _ fun _ _ h => h
  · intro h' tk m' news' F' N' _ hJ
    rw [hsz] at hJ
    exact fin h' tk m' news' F' N' hJ
end
theorem enterCC {w : World} {s : Shared} {base : Heap} {outs : List Env} {K : Frag} {p : Program} {loose : List Str} {mean : ExcName → Option Value} {mg mb : Str → Option Value} {dp un : Nat} {gd : Option (List Code)}
    {R : Result → Shared → Prop} {name qual : Str} {params : Arguments} {body : List Stmt} {scope : Scope} {dV kV doc pm cdv ct oc : Value} {an od : Option Addr} {osl : Array (Option Value)} {f : Addr} {args : Args} {binds : List (Str × Value)}
    (B : Below (ar dp un gd outs) base outs s.heap) (X : K.In base) (T : Top p loose mean mg mb base)
    (ho : K.lookup f = some ⟨oc, od, .func (fnOf name qual params body scope dV kV doc pm an cdv ct), osl⟩) (hcd : codeIn K cdv qual = true) (hroom : dp < recursionLimit)
    (hbind : BindsTo s (fnOf name qual params body scope dV kV doc pm an cdv ct) args binds) (hkind : (binds.all fun y => scope.names.lookup y.1 == some .local || scope.names.lookup y.1 == some .cell) = true)
    (hnd : ((cellsFrom 0 scope.names []).map (·.1)).Nodup)
    (h : ∀ g L' h₁ tk cells, Kept [] s.heap g → Fr g L' h₁ (bindL (envOfC qual scope L' f cdv).kindOf binds fun _ => none) → News g L' h₁ cells →
      CellsAre (bindC (envOfC qual scope L' f cdv).kindOf binds fun _ => none) (cellsFrom (L' + 1) scope.names []) cells → Below (ar dp un gd outs) base outs g → K.In g → Top p loose mean mg mb g →
      wpAny (model PG w) ((ar dp un gd outs).deeper (envOfC qual scope L' f cdv)) (execs body (envOfC qual scope L' f cdv))
        (fun fl s' => EndR R (match fl with | .ret v => v | _ => .none) s')
        (fun e s' => wpAny (model PG w) ((ar dp un gd outs).deeper (envOfC qual scope L' f cdv)) (leaving (envOfC qual scope L' f cdv) e) (fun _ s'' => R (.error e) s'') (fun e' s'' => R (.error e') s'') s')
        { s with heap := h₁, toks := tk })
    (hco : scope.isCoroutine = false) (hgen : scope.isGenerator = false) (hk : scope.kind = .function) : codeAny (model PG w) (ar dp un gd outs) (.call (.ref f) args) R s := by
  have XS := X.keeps B.stays
  refine codeAny_call_function (fd := fnOf name qual params body scope dV kV doc pm an cdv ct) hroom (XS _ _ ho) rfl hco hgen rfl (codeRec_of XS hcd) (hbind _ _ _ _ ?_)
  refine wpAny_newFunctionEnv_cells hk (kindsX hkind _) fun env' he s' x => ?_
  subst he
  refine ⟨(T.nolimit.keeps B.stays).keeps x.toInCall.keep, codeAny_func ?_⟩
  obtain ⟨h₁, tk, rfl, _⟩ := x.done
  have hk₁ := x.toInCall.keep
  obtain ⟨cells, NC, Y⟩ := Cl.news (h₀ := s.heap) (Nat.le_refl _) fun n c hm => ⟨x.cell n c (lookup_of_mem_nodup (cellsFrom_names scope.names 0 (s.heap.objs.size + 1) [] [] rfl ▸ hnd) hm), x.above n c hm⟩
  exact h s.heap s.heap.objs.size h₁ tk cells (fun b o e _ => e) ⟨x.toInCall.ns, fun b o e => hk₁ b o e, Nat.le_refl _⟩ NC Y B XS (T.keeps B.stays)
end
section
open PySem.W.X PySem.Builtin
set_option autoImplicit false
noncomputable def updF {α : Type} (f : Nat → α) (a : Nat) (v : α) : Nat → α := fun j => if j = a then v else f j
theorem news_map {g h h' : Heap} {L x : Addr} {o' : Obj} {led : List (Addr × Obj)} (N : News g L h led) (hx : ∃ o, (x, o) ∈ led) (hs : Heap.SameBut x h h') (ho : h'.get? x = some o') : News g L h' (led.map fun p => if p.1 = x then (x, o') else p) := fun q hq => by
  obtain ⟨p, hp, rfl⟩ := List.mem_map.mp hq
  obtain ⟨o, hxo⟩ := hx
  by_cases e : p.1 = x
  · rw [if_pos e]
    exact ⟨ho, (N _ hxo).2⟩
  · rw [if_neg e]
    exact ⟨(hs.2 _ e).trans (N _ hp).1, (N _ hp).2⟩
structure DrC where
  rl : Addr
  tl : Addr
  el : Addr
  ra : Nat → Addr
structure DrS where
  RV : Nat → List Value
  re : Nat → Nat
  T : Nat → Str
  tt : Nat → Tok
  te : Nat
  Es : Nat → Str
  et : Nat → Tok
  ee : Nat
noncomputable abbrev DrC.led (c : DrC) (z : DrS) : List (Addr × Obj) :=
  [(c.rl, W.listOf #[.ref (c.ra 0), .ref (c.ra 1), .ref (c.ra 2), .ref (c.ra 3)] 0), (c.tl, W.listOf #[.str (z.T 0) (z.tt 0), .str (z.T 1) (z.tt 1), .str (z.T 2) (z.tt 2), .str (z.T 3) (z.tt 3)] z.te),
    (c.el, W.listOf #[.str (z.Es 0) (z.et 0), .str (z.Es 1) (z.et 1), .str (z.Es 2) (z.et 2), .str (z.Es 3) (z.et 3)] z.ee),
    (c.ra 0, W.listOf (z.RV 0).toArray (z.re 0)), (c.ra 1, W.listOf (z.RV 1).toArray (z.re 1)), (c.ra 2, W.listOf (z.RV 2).toArray (z.re 2)), (c.ra 3, W.listOf (z.RV 3).toArray (z.re 3))]
noncomputable abbrev DrC.as (c : DrC) : List Addr := [c.rl, c.tl, c.el, c.ra 0, c.ra 1, c.ra 2, c.ra 3]
structure DrC.Dis (c : DrC) (own : List (Addr × Obj)) : Prop where
  nd : c.as.Nodup
  off : ∀ p ∈ own, p.1 ∉ c.as
theorem map_off {own : List (Addr × Obj)} {x : Addr} {o' : Obj} (h : ∀ p ∈ own, p.1 ≠ x) : own.map (fun p => if p.1 = x then (x, o') else p) = own := by
  induction own with
  | nil => rfl
  | cons p l ih => rw [List.map_cons, if_neg (h p (.head _)), ih fun q hq => h q (.tail _ hq)]
theorem DrC.Dis.inj {c : DrC} {own : List (Addr × Obj)} (D : c.Dis own) {i j : Nat} {x : Addr} (hi : c.as[i]? = some x) (hj : c.as[j]? = some x) : i = j :=
  (List.getElem?_inj (List.getElem?_eq_some_iff.mp hi).1 D.nd).mp (hi.trans hj.symm)
theorem led_as {c : DrC} {z : DrS} {i : Nat} {q : Addr × Obj} (h : (c.led z)[i]? = some q) : c.as[i]? = some q.1 := by
  have : c.as = (c.led z).map (·.1) := rfl
  rw [this, List.getElem?_map, h]; rfl
theorem as_row {c : DrC} {a : Nat} (ha : a < 4) : c.as[3 + a]? = some (c.ra a) := by
  rcases a with _ | _ | _ | _ | a
  · rfl
  · rfl
  · rfl
  · rfl
  · exact (no4 ha).elim
theorem row_mem {c : DrC} {z : DrS} {own : List (Addr × Obj)} {a : Nat} (ha : a < 4) : (c.ra a, W.listOf (z.RV a).toArray (z.re a)) ∈ c.led z ++ own := List.mem_append_left _ (by
  rcases a with _ | _ | _ | _ | a
  · exact List.mem_of_getElem? (i := 3) rfl
  · exact List.mem_of_getElem? (i := 4) rfl
  · exact List.mem_of_getElem? (i := 5) rfl
  · exact List.mem_of_getElem? (i := 6) rfl
  · exact (no4 ha).elim)
theorem led_set {g h h' : Heap} {L x : Addr} {c : DrC} {z z' : DrS} {own : List (Addr × Obj)} {o o' : Obj} {i₀ : Nat} (N : News g L h (c.led z ++ own)) (D : c.Dis own) (hx : c.as[i₀]? = some x) (ho : (x, o) ∈ c.led z ++ own) (hs : Heap.SameBut x h h') (hn : h'.get? x = some o')
    (hl : ∀ i q, (c.led z')[i]? = some q → (i = i₀ → q.2 = o') ∧ (i ≠ i₀ → (c.led z)[i]? = some q)) : News g L h' (c.led z' ++ own) := fun q hq => by
  rcases List.mem_append.mp hq with h1 | h1
  · obtain ⟨i, hi, e⟩ := List.getElem_of_mem h1
    have h2 : (c.led z')[i]? = some q := List.getElem?_eq_some_iff.mpr ⟨hi, e⟩
    by_cases h3 : i = i₀
    · have e1 : q.1 = x := Option.some.inj ((led_as h2).symm.trans (h3 ▸ hx))
      rw [e1, (hl i q h2).1 h3]
      exact ⟨hn, (N _ ho).2⟩
    · have e1 : q.1 ≠ x := fun e => h3 (D.inj (led_as h2) (e ▸ hx))
      have h4 := N q (List.mem_append_left _ (List.mem_of_getElem? ((hl i q h2).2 h3)))
      exact ⟨(hs.2 _ e1).trans h4.1, h4.2⟩
  · have e1 : q.1 ≠ x := fun e => D.off q h1 (e ▸ List.mem_of_getElem? hx)
    have h4 := N q (List.mem_append_right _ h1)
    exact ⟨(hs.2 _ e1).trans h4.1, h4.2⟩
theorem updF_at {α : Type} {f : Nat → α} {a : Nat} {v : α} : updF f a v a = v := if_pos rfl
theorem updF_ne {α : Type} {f : Nat → α} {a b : Nat} {v : α} (h : b ≠ a) : updF f a v b = f b := if_neg h
theorem led_row {c : DrC} {z : DrS} {a k : Nat} {vs : List Value} {n : Nat} {q : Addr × Obj} (h : (c.ra k, W.listOf (updF z.RV a vs k).toArray (updF z.re a n k)) = q) :
    (k = a → q.2 = W.listOf vs.toArray n) ∧ (k ≠ a → (c.ra k, W.listOf (z.RV k).toArray (z.re k)) = q) := by
  subst h
  exact ⟨fun e => by rw [e, updF_at, updF_at], fun e => by rw [updF_ne e, updF_ne e]⟩
section
variable {w : World} {A : Around} {E : Value → Shared → Prop} {s : Shared} {g : Heap} {L : Addr} {m : Str → Option Value} {led own : List (Addr × Obj)} {c : DrC} {z : DrS} {i : Int} {a : Nat} {t : Tok} {value slice : PySem.Expr}
theorem dr_row {Q : Value → Shared → Prop} (N : News g L s.heap led) (sub : ∀ q ∈ c.led z ++ own, q ∈ led) (hi : Idx i a) (h : Q (.ref (c.ra a)) s)
    (hs : subscripted slice false (.ref c.rl) (.int i t) = operate [.ref c.rl, .int i t] (getItem (.ref c.rl) (.int i t)) := by with_unfolding_all rfl) : wpAny (model PG w) A (subscriptTail value slice (.ref c.rl) (.int i t)) Q E s :=
  pick4 (u := fun a => .ref (c.ra a)) ⟨_, (N _ (sub _ (.head _))).1, rfl, _, rfl⟩ hi h hs
theorem dr_text {Q : Value → Shared → Prop} (N : News g L s.heap led) (sub : ∀ q ∈ c.led z ++ own, q ∈ led) (hi : Idx i a) (h : Q (.str (z.T a) (z.tt a)) s)
    (hs : subscripted slice false (.ref c.tl) (.int i t) = operate [.ref c.tl, .int i t] (getItem (.ref c.tl) (.int i t)) := by with_unfolding_all rfl) : wpAny (model PG w) A (subscriptTail value slice (.ref c.tl) (.int i t)) Q E s :=
  pick4 (u := fun a => .str (z.T a) (z.tt a)) ⟨_, (N _ (sub _ (.tail _ (.head _)))).1, rfl, _, rfl⟩ hi h hs
theorem dr_end {Q : Value → Shared → Prop} (N : News g L s.heap led) (sub : ∀ q ∈ c.led z ++ own, q ∈ led) (hi : Idx i a) (h : Q (.str (z.Es a) (z.et a)) s)
    (hs : subscripted slice false (.ref c.el) (.int i t) = operate [.ref c.el, .int i t] (getItem (.ref c.el) (.int i t)) := by with_unfolding_all rfl) : wpAny (model PG w) A (subscriptTail value slice (.ref c.el) (.int i t)) Q E s :=
  pick4 (u := fun a => .str (z.Es a) (z.et a)) ⟨_, (N _ (sub _ (.tail _ (.tail _ (.head _))))).1, rfl, _, rfl⟩ hi h hs
theorem n3a {k a : Nat} (h : k < 3) (e : k = 3 + a) : False := absurd e (Nat.ne_of_lt (Nat.lt_of_lt_of_le h (Nat.le_add_right 3 a)))
theorem a3 {k a : Nat} (e : 3 + k = 3 + a) : k = a := Nat.add_left_cancel e
theorem a3n {k a : Nat} (e : 3 + k ≠ 3 + a) : k ≠ a := fun q => e (congrArg (3 + ·) q)
theorem idx_eq {i : Int} {a : Nat} (h0 : 0 ≤ i) (ha : a < 4) (hi : i = (a : Int) ∨ i = (a : Int) - 4) : i = (a : Int) := hi.elim id fun e => absurd (e ▸ h0) (Int.not_le.2 (Int.sub_neg_of_lt (Int.ofNat_lt.2 ha)))
theorem idx_tn {i : Int} {a : Nat} (h0 : 0 ≤ i) (ha : a < 4) (hi : i = (a : Int) ∨ i = (a : Int) - 4) : i.toNat = a := congrArg Int.toNat (idx_eq h0 ha hi)
theorem idx_63 {i : Int} {a : Nat} (h0 : 0 ≤ i) (ha : a < 4) (hi : i = (a : Int) ∨ i = (a : Int) - 4) : i < 2 ^ 63 := idx_eq h0 ha hi ▸ om_i63' ha rfl
theorem idx_l4 {i : Int} {a : Nat} (h0 : 0 ≤ i) (ha : a < 4) (hi : i = (a : Int) ∨ i = (a : Int) - 4) : i < 4 := idx_eq h0 ha hi ▸ Int.ofNat_lt.2 ha
theorem dr_app {Q : Value → Shared → Prop} {v : Value} (F : Fr g L s.heap m) (N : News g L s.heap led) (sub : ∀ q ∈ c.led z ++ own, q ∈ led) (D : c.Dis own) (ha : a < 4) (hlen : (z.RV a).length ≤ 1000)
    (h : ∀ h', Fr g L h' m → News g L h' (c.led { z with RV := updF z.RV a (z.RV a ++ [v]), re := updF z.re a (z.re a + 1) } ++ own) → Q .none { s with heap := h' }) : wpAny (model PG w) A (call (.builtin "list.append") [.ref (c.ra a), v]) Q E s := by
  have hr := as_row (c := c) ha
  have hm := row_mem (c := c) (z := z) (own := own) ha
  have N0 : News g L s.heap (c.led z ++ own) := fun q hq => N q (sub q hq)
  refine append_at (hsz := by rw [sizeLine_eq, List.size_toArray]; exact om_le hlen rfl) (N0 _ hm).1 fun h' hs ho' => h h' (F.change hs (N0 _ hm).2.1 (N0 _ hm).2.2) ?_
  rw [List.push_toArray] at ho'
  refine led_set N0 D hr hm hs ho' fun i q hq => ?_
  match i, hq with
  | 0, hq => exact ⟨fun e => (n3a (Nat.le_of_ble_eq_true rfl) e).elim, fun _ => hq⟩
  | 1, hq => exact ⟨fun e => (n3a (Nat.le_of_ble_eq_true rfl) e).elim, fun _ => hq⟩
  | 2, hq => exact ⟨fun e => (n3a (Nat.le_of_ble_eq_true rfl) e).elim, fun _ => hq⟩
  | 3, hq => exact ⟨fun e => (led_row (Option.some.inj hq)).1 (a3 (k := 0) e), fun e => congrArg some ((led_row (Option.some.inj hq)).2 (a3n (k := 0) e))⟩
  | 4, hq => exact ⟨fun e => (led_row (Option.some.inj hq)).1 (a3 (k := 1) e), fun e => congrArg some ((led_row (Option.some.inj hq)).2 (a3n (k := 1) e))⟩
  | 5, hq => exact ⟨fun e => (led_row (Option.some.inj hq)).1 (a3 (k := 2) e), fun e => congrArg some ((led_row (Option.some.inj hq)).2 (a3n (k := 2) e))⟩
  | 6, hq => exact ⟨fun e => (led_row (Option.some.inj hq)).1 (a3 (k := 3) e), fun e => congrArg some ((led_row (Option.some.inj hq)).2 (a3n (k := 3) e))⟩
  | n + 7, hq => exact absurd hq (by intro h; cases h)
end
section
variable {w : World} {A : Around} {E : Value → Shared → Prop} {s : Shared} {g : Heap} {L : Addr} {m : Str → Option Value} {led own : List (Addr × Obj)} {c : DrC} {z : DrS} {i : Int} {a : Nat} {t : Tok}
theorem dr_setT {Q : Unit → Shared → Prop} {x : Str} {u : Tok} (F : Fr g L s.heap m) (N : News g L s.heap led) (sub : ∀ q ∈ c.led z ++ own, q ∈ led) (D : c.Dis own) (hi : Idx i a) (h0 : 0 ≤ i)
    (h : ∀ h', Fr g L h' m → News g L h' (c.led { z with T := updF z.T a x, tt := updF z.tt a u } ++ own) → Q () { s with heap := h' }) : wpAny (model PG w) A (setItem (.ref c.tl) (.int i t) (.str x u)) Q E s := by
  obtain ⟨ha, hi⟩ := hi
  have N0 : News g L s.heap (c.led z ++ own) := fun q hq => N q (sub q hq)
  have hm : (c.tl, W.listOf #[.str (z.T 0) (z.tt 0), .str (z.T 1) (z.tt 1), .str (z.T 2) (z.tt 2), .str (z.T 3) (z.tt 3)] z.te) ∈ c.led z ++ own := .tail _ (.head _)
  have e : i.toNat = a := idx_tn h0 ha hi
  refine ki_setAt (N0 _ hm).1 h0 (idx_63 h0 ha hi) (idx_l4 h0 ha hi) (h _ (F.change (Heap.SameBut.update ..) (N0 _ hm).2.1 (N0 _ hm).2.2) ?_)
  have ho := PySem.IsL.update (N0 _ hm).1 (·.setIfInBounds i.toNat (.str x u))
  rw [e] at ho ⊢
  refine led_set (i₀ := 1) N0 D rfl hm (Heap.SameBut.update ..) ho fun i q hq => ?_
  match i, hq with
  | 0, hq => exact ⟨fun e => absurd e (by decide), fun _ => hq⟩
  | 1, hq => exact ⟨fun _ => by cases hq; rcases a with _ | _ | _ | _ | a <;> first | rfl | exact (no4 ha).elim, fun n => absurd rfl n⟩
  | 2, hq => exact ⟨fun e => absurd e (by decide), fun _ => hq⟩
  | 3, hq => exact ⟨fun e => absurd e (by decide), fun _ => hq⟩
  | 4, hq => exact ⟨fun e => absurd e (by decide), fun _ => hq⟩
  | 5, hq => exact ⟨fun e => absurd e (by decide), fun _ => hq⟩
  | 6, hq => exact ⟨fun e => absurd e (by decide), fun _ => hq⟩
  | n + 7, hq => exact absurd hq (by intro h; cases h)
theorem dr_setE {Q : Unit → Shared → Prop} {x : Str} {u : Tok} (F : Fr g L s.heap m) (N : News g L s.heap led) (sub : ∀ q ∈ c.led z ++ own, q ∈ led) (D : c.Dis own) (hi : Idx i a) (h0 : 0 ≤ i)
    (h : ∀ h', Fr g L h' m → News g L h' (c.led { z with Es := updF z.Es a x, et := updF z.et a u } ++ own) → Q () { s with heap := h' }) : wpAny (model PG w) A (setItem (.ref c.el) (.int i t) (.str x u)) Q E s := by
  obtain ⟨ha, hi⟩ := hi
  have N0 : News g L s.heap (c.led z ++ own) := fun q hq => N q (sub q hq)
  have hm : (c.el, W.listOf #[.str (z.Es 0) (z.et 0), .str (z.Es 1) (z.et 1), .str (z.Es 2) (z.et 2), .str (z.Es 3) (z.et 3)] z.ee) ∈ c.led z ++ own := .tail _ (.tail _ (.head _))
  have e : i.toNat = a := idx_tn h0 ha hi
  refine ki_setAt (N0 _ hm).1 h0 (idx_63 h0 ha hi) (idx_l4 h0 ha hi) (h _ (F.change (Heap.SameBut.update ..) (N0 _ hm).2.1 (N0 _ hm).2.2) ?_)
  have ho := PySem.IsL.update (N0 _ hm).1 (·.setIfInBounds i.toNat (.str x u))
  rw [e] at ho ⊢
  refine led_set (i₀ := 2) N0 D rfl hm (Heap.SameBut.update ..) ho fun i q hq => ?_
  match i, hq with
  | 0, hq => exact ⟨fun e => absurd e (by decide), fun _ => hq⟩
  | 1, hq => exact ⟨fun e => absurd e (by decide), fun _ => hq⟩
  | 2, hq => exact ⟨fun _ => by cases hq; rcases a with _ | _ | _ | _ | a <;> first | rfl | exact (no4 ha).elim, fun n => absurd rfl n⟩
  | 3, hq => exact ⟨fun e => absurd e (by decide), fun _ => hq⟩
  | 4, hq => exact ⟨fun e => absurd e (by decide), fun _ => hq⟩
  | 5, hq => exact ⟨fun e => absurd e (by decide), fun _ => hq⟩
  | 6, hq => exact ⟨fun e => absurd e (by decide), fun _ => hq⟩
  | n + 7, hq => exact absurd hq (by intro h; cases h)
end
theorem m_shape1 {m : Str → Option Value} {x1 : Str} {v1 : Value} (e1 : m x1 = some v1) : m = fun y => if y = x1 then some v1 else m y := by
  funext y
  by_cases h1 : y = x1
  · rw [if_pos h1, h1, e1]
  · rw [if_neg h1]
structure DS where
  pcs : Nat → List Pc
  en : Nat → Option Nat
noncomputable def dI (x : Int) : Nat := (x % 4).toNat
noncomputable def dK (x : Int) : Nat := (x / 4 % 6).toNat
noncomputable def dW (x : Int) : Nat := (x / 24 % 3).toNat
noncomputable def dJ (x : Int) : Nat := (x / 24 / 3 % 4).toNat
noncomputable def dstep (d : DS) (x : Int) : DS := if dK x = 5 then { d with en := updF d.en (dI x) (some (dW x)) } else { d with pcs := updF d.pcs (dI x) (d.pcs (dI x) ++ [⟨dK x, dW x, dJ x⟩]) }
noncomputable def draws (xs : List Int) : DS := xs.foldl dstep ⟨fun _ => [], fun _ => none⟩
structure DrOk (d : DS) (z : DrS) (n : Nat) : Prop where
  rv : ∀ a, IntsAre (z.RV a) ((d.pcs a).map fun p => (p.k : Int))
  tx_ : ∀ a, z.T a = tx ((d.pcs a).flatMap Pc.text)
  en_ : ∀ a, z.Es a = tx (endText (d.en a))
  len : ∀ a, (d.pcs a).length ≤ n
  ok : ∀ a, ∀ p ∈ d.pcs a, p.ok
  eok : ∀ a, EndOk (d.en a)
noncomputable def sel4 (a b c d : Addr) : Nat → Addr
  | 0 => a
  | 1 => b
  | 2 => c
  | _ => d
theorem pw_cons {a b : Nat} {l : List Nat} (h : a < b) (p : (b :: l).Pairwise (· < ·)) : (a :: b :: l).Pairwise (· < ·) := .cons (List.forall_mem_cons.2 ⟨h, fun _ hx => Nat.lt_trans h (List.rel_of_pairwise_cons p hx)⟩) p
theorem all7 {r0 r1 r2 r3 rl tl el : Nat} (q1 : r0 < r1) (q2 : r1 < r2) (q3 : r2 < r3) (q4 : r3 < rl) (q5 : rl < tl) (q6 : tl < el) : [rl, tl, el, r0, r1, r2, r3].Nodup ∧ ∀ a ∈ [rl, tl, el, r0, r1, r2, r3], r0 ≤ a ∧ a ≤ el := by
  have P : ([r0, r1, r2, r3, rl, tl] ++ [el]).Pairwise (· < ·) := pw_cons q1 (pw_cons q2 (pw_cons q3 (pw_cons q4 (pw_cons q5 (pw_cons q6 (.cons (fun _ h => nomatch h) .nil))))))
  refine ⟨(List.pairwise_append_comm (R := (· ≠ ·)) (fun h => Ne.symm h) (l₁ := [r0, r1, r2, r3]) (l₂ := [rl, tl, el])).1 (P.imp Nat.ne_of_lt), fun a ha => ?_⟩
  have ha : a ∈ [r0, r1, r2, r3, rl, tl, el] := List.mem_append.2 (List.mem_append.1 (show a ∈ [rl, tl, el] ++ [r0, r1, r2, r3] from ha)).symm
  refine ⟨(List.mem_cons.1 ha).elim (fun e => Nat.le_of_eq e.symm) fun h => Nat.le_of_lt (List.rel_of_pairwise_cons P h), (List.mem_append.1 (show a ∈ [r0, r1, r2, r3, rl, tl] ++ [el] from ha)).elim (fun h => Nat.le_of_lt ((List.pairwise_append.1 P).2.2 a h el (.head _))) fun h => Nat.le_of_eq (List.mem_singleton.1 h)⟩
theorem dr_begin {g h : Heap} {L : Addr} {led : List (Addr × Obj)} {rl tl el r0 r1 r2 r3 c1 c2 : Addr} {t0 t1 t2 t3 u0 u1 u2 u3 : Tok} {o1 o2 : Obj} (N : News g L h led)
    (m1 : (rl, W.listOf #[.ref r0, .ref r1, .ref r2, .ref r3] 0) ∈ led) (m2 : (tl, W.listOf #[.str (Str.ofString "") t0, .str (Str.ofString "") t1, .str (Str.ofString "") t2, .str (Str.ofString "") t3] 0) ∈ led)
    (m3 : (el, W.listOf #[.str (Str.ofString "") u0, .str (Str.ofString "") u1, .str (Str.ofString "") u2, .str (Str.ofString "") u3] 0) ∈ led) (m4 : (r0, W.listOf #[] 0) ∈ led) (m5 : (r1, W.listOf #[] 0) ∈ led) (m6 : (r2, W.listOf #[] 0) ∈ led) (m7 : (r3, W.listOf #[] 0) ∈ led)
    (n1 : (c1, o1) ∈ led) (n2 : (c2, o2) ∈ led) (q1 : @LT.lt Nat _ r0 r1) (q2 : @LT.lt Nat _ r1 r2) (q3 : @LT.lt Nat _ r2 r3) (q4 : @LT.lt Nat _ r3 rl) (q5 : @LT.lt Nat _ rl tl) (q6 : @LT.lt Nat _ tl el) :
    ∃ (c : DrC) (z : DrS) (cells : List (Addr × Obj)), cells = [(c1, o1), (c2, o2)] ∧ c.rl = rl ∧ c.tl = tl ∧ c.el = el ∧ c.ra 0 = r0 ∧ News g L h (c.led z ++ cells) ∧ c.as.Nodup ∧ (∀ a ∈ c.as, @LE.le Nat _ r0 a ∧ @LE.le Nat _ a el) ∧ DrOk (draws []) z 0 := by
  refine ⟨⟨rl, tl, el, sel4 r0 r1 r2 r3⟩, ⟨fun _ => [], fun _ => 0, fun _ => Str.ofString "", fun | 0 => t0 | 1 => t1 | 2 => t2 | _ => t3, 0, fun _ => Str.ofString "", fun | 0 => u0 | 1 => u1 | 2 => u2 | _ => u3, 0⟩, _, rfl, rfl, rfl, rfl, rfl, ?_, (all7 q1 q2 q3 q4 q5 q6).1, (all7 q1 q2 q3 q4 q5 q6).2, ⟨fun _ => .nil, fun _ => lit_none, fun _ => lit_none, fun _ => Nat.le_refl _, (fun _ _ h => nomatch h), fun _ => trivial⟩⟩
  exact List.forall_mem_cons.2 ⟨N _ m1, List.forall_mem_cons.2 ⟨N _ m2, List.forall_mem_cons.2 ⟨N _ m3, List.forall_mem_cons.2 ⟨N _ m4, List.forall_mem_cons.2 ⟨N _ m5, List.forall_mem_cons.2 ⟨N _ m6, List.forall_mem_cons.2 ⟨N _ m7, List.forall_mem_cons.2 ⟨N _ n1, List.forall_mem_cons.2 ⟨N _ n2, List.forall_mem_nil _⟩⟩⟩⟩⟩⟩⟩⟩⟩
theorem dis_of {c : DrC} {c1 c2 r0 el I ax : Addr} {o1 o2 : Obj} {own : List (Addr × Obj)} (nd : c.as.Nodup) (lo : ∀ a ∈ c.as, @LE.le Nat _ r0 a ∧ @LE.le Nat _ a el) (h1 : @LT.lt Nat _ c1 r0) (h2 : @LT.lt Nat _ c2 r0) (ho : ∀ p ∈ own, p.1 = I ∨ p.1 = ax) (hI : @LT.lt Nat _ el I) (hx : @LT.lt Nat _ el ax) :
    c.Dis ((c1, o1) :: (c2, o2) :: own) := ⟨nd, fun p hp hm => by
    obtain ⟨g1, g2⟩ := lo _ hm
    rcases List.mem_cons.mp hp with rfl | hp
    · exact absurd (Nat.lt_of_lt_of_le h1 g1) (Nat.lt_irrefl _)
    rcases List.mem_cons.mp hp with rfl | hp
    · exact absurd (Nat.lt_of_lt_of_le h2 g1) (Nat.lt_irrefl _)
    rcases ho p hp with e | e
    · rw [e] at g2; exact absurd (Nat.lt_of_lt_of_le hI g2) (Nat.lt_irrefl _)
    · rw [e] at g2; exact absurd (Nat.lt_of_lt_of_le hx g2) (Nat.lt_irrefl _)⟩
theorem dr_turn_news {g h : Heap} {L : Addr} {c : DrC} {z : DrS} {a b : Addr × Obj} {own : List (Addr × Obj)} (N : News g L h (own ++ (c.led z ++ [a, b]))) : News g L h (c.led z ++ (a :: b :: own)) := fun q hq => N q
  ((List.mem_append.1 hq).elim (fun h => List.mem_append_right _ (List.mem_append_left _ h)) fun h => (List.mem_append.1 (show q ∈ [a, b] ++ own from h)).elim (fun h => List.mem_append_right _ (List.mem_append_right _ h)) (List.mem_append_left _))
end
section
open PySem.W.X PySem.Builtin
set_option autoImplicit false
section
variable {w : World} {A : Around} {E : Value → Shared → Prop} {s : Shared} {g : Heap} {L : Addr} {m : Str → Option Value} {led own : List (Addr × Obj)} {c : DrC} {z : DrS} {i : Int} {a : Nat} {t : Tok} {value slice : PySem.Expr} {q : Addr} {n : Nat}
theorem pick3s {Q : Value → Shared → Prop} {s0 s1 s2 : Str} {t0 t1 t2 : Tok} (N : News g L s.heap led) (hq : (q, W.listOf #[.str s0 t0, .str s1 t1, .str s2 t2] n) ∈ led) (h0 : 0 ≤ i) (h1 : i < 3) (h : ∀ u, Q (.str ([s0, s1, s2].getD i.toNat s0) u) s)
    (hs : subscripted slice false (.ref q) (.int i t) = operate [.ref q, .int i t] (getItem (.ref q) (.int i t)) := by with_unfolding_all rfl) : wpAny (model PG w) A (subscriptTail value slice (.ref q) (.int i t)) Q E s := by
  have hl : s.heap.IsList q #[.str s0 t0, .str s1 t1, .str s2 t2] := ⟨_, (N _ hq).1, rfl, _, rfl⟩
  refine tail_any hl.typeIs slot_list_getitem.lookup ?_ hs
  obtain ⟨k, rfl⟩ := Int.eq_ofNat_of_zero_le h0
  rcases k with _ | _ | _ | k
  · exact wpAny_getItem_list hl h0 (by decide) rfl (h _)
  · exact wpAny_getItem_list hl h0 (by decide) rfl (h _)
  · exact wpAny_getItem_list hl h0 (by decide) rfl (h _)
  · exact (no3 (Int.ofNat_lt.1 h1)).elim
theorem pick4s {Q : Value → Shared → Prop} {s0 s1 s2 s3 : Str} {t0 t1 t2 t3 : Tok} (N : News g L s.heap led) (hq : (q, W.listOf #[.str s0 t0, .str s1 t1, .str s2 t2, .str s3 t3] n) ∈ led) (h0 : 0 ≤ i) (h1 : i < 4) (h : ∀ u, Q (.str ([s0, s1, s2, s3].getD i.toNat s0) u) s)
    (hs : subscripted slice false (.ref q) (.int i t) = operate [.ref q, .int i t] (getItem (.ref q) (.int i t)) := by with_unfolding_all rfl) : wpAny (model PG w) A (subscriptTail value slice (.ref q) (.int i t)) Q E s := by
  have hl : s.heap.IsList q #[.str s0 t0, .str s1 t1, .str s2 t2, .str s3 t3] := ⟨_, (N _ hq).1, rfl, _, rfl⟩
  refine tail_any hl.typeIs slot_list_getitem.lookup ?_ hs
  obtain ⟨k, rfl⟩ := Int.eq_ofNat_of_zero_le h0
  rcases k with _ | _ | _ | _ | k
  · exact wpAny_getItem_list hl h0 (by decide) rfl (h _)
  · exact wpAny_getItem_list hl h0 (by decide) rfl (h _)
  · exact wpAny_getItem_list hl h0 (by decide) rfl (h _)
  · exact wpAny_getItem_list hl h0 (by decide) rfl (h _)
  · exact (no4 (Int.ofNat_lt.1 h1)).elim
theorem pick5s {Q : Value → Shared → Prop} {s0 s1 s2 s3 s4 : Str} {t0 t1 t2 t3 t4 : Tok} (N : News g L s.heap led) (hq : (q, W.listOf #[.str s0 t0, .str s1 t1, .str s2 t2, .str s3 t3, .str s4 t4] n) ∈ led) (h0 : 0 ≤ i) (h1 : i < 5) (h : ∀ u, Q (.str ([s0, s1, s2, s3, s4].getD i.toNat s0) u) s)
    (hs : subscripted slice false (.ref q) (.int i t) = operate [.ref q, .int i t] (getItem (.ref q) (.int i t)) := by with_unfolding_all rfl) : wpAny (model PG w) A (subscriptTail value slice (.ref q) (.int i t)) Q E s := by
  have hl : s.heap.IsList q #[.str s0 t0, .str s1 t1, .str s2 t2, .str s3 t3, .str s4 t4] := ⟨_, (N _ hq).1, rfl, _, rfl⟩
  refine tail_any hl.typeIs slot_list_getitem.lookup ?_ hs
  obtain ⟨k, rfl⟩ := Int.eq_ofNat_of_zero_le h0
  rcases k with _ | _ | _ | _ | _ | k
  · exact wpAny_getItem_list hl h0 (by decide) rfl (h _)
  · exact wpAny_getItem_list hl h0 (by decide) rfl (h _)
  · exact wpAny_getItem_list hl h0 (by decide) rfl (h _)
  · exact wpAny_getItem_list hl h0 (by decide) rfl (h _)
  · exact wpAny_getItem_list hl h0 (by decide) rfl (h _)
  · exact (no5 (Int.ofNat_lt.1 h1)).elim
theorem dr_meth {Q : Value × List Value → Shared → Prop} {pl : Sem Bool} (N : News g L s.heap led) (sub : ∀ q ∈ c.led z ++ own, q ∈ led) (ha : a < 4) (h : Q (.builtin "list.append", [.ref (c.ra a)]) s) : wpAny (model PG w) A (getMethod (.ref (c.ra a)) "append" pl) Q E s := by
  exact getMethod_append_N N (sub _ (row_mem ha)) h
end
section
variable {base g : Heap} {L : Addr} {m : Str → Option Value} {env : Env} {s : Shared} {Q : Value → Shared → Prop} {E : Value → Shared → Prop} {led : List (Addr × Obj)}
theorem k_written {k way : Nat} {x : Str} {wz : Int} {tk tw : Tok} (B : Below (ar dp un gd outs) base outs g) (F : Fr g L s.heap m) (N : News g L s.heap led) (X : (pre.heap_1 w.params).In base) (TT : Top p loose mean mg mb base)
    (hf : env.frame = some L) (hkd : env.scope.kind = .function) (hk : k < 5) (hw : way < 3) (hx : x = wordS k) (hwz : wz = (way : Int)) (hdp : dp + 43 < recursionLimit) (hu : un + 205 < cLine)
    (q : ∀ t h' tk', Fr g L h' m → News g L h' led → Q (.str (tx (written k way)) t) { s with heap := h', toks := tk' }) :
    wpAny (model PG w) ((ar dp un gd outs).deeper env) (call (.ref 747) [.str x tk, .int wz tw]) Q E s := by
  subst hx hwz
  exact call_by fun R ok _ => c_written (dp := dp + 1) (un := un + 3) (outs := env :: outs) hk hw (pushX B F hf hkd) X TT (free_of B F N hf fun _ h => nomatch h) (by omega) (by omega) fun h' tk' t kk => ok _ _ (q t h' tk' (back0 F N kk).1 (back0 F N kk).2)
theorem word_pick {k : Nat} (hk : k < 5) : [Str.ofString "b", Str.ofString "", Str.ofString "it's", Str.ofString "a b", Str.ofString "#\\"].getD k (Str.ofString "b") = wordS k := by
  rcases k with _ | _ | _ | _ | _ | k
  · rfl
  · rfl
  · rfl
  · rfl
  · rfl
  · exact (no5 hk).elim
theorem sep_pick {j : Nat} (hj : j < 4) : [Str.ofString " ", Str.ofString "\t\n", Str.ofString " #'\n", Str.ofString "\r"].getD j (Str.ofString " ") = tx (sepr j) := by
  rcases j with _ | _ | _ | _ | j
  · kernel_rfl
  · kernel_rfl
  · kernel_rfl
  · kernel_rfl
  · exact (no4 hj).elim
theorem end_pick {j : Nat} (hj : j < 3) : [Str.ofString "'x", Str.ofString "\"", Str.ofString "\\"].getD j (Str.ofString "'x") = tx (tend j) := by
  rcases j with _ | _ | _ | j
  · kernel_rfl
  · kernel_rfl
  · kernel_rfl
  · exact (no3 hj).elim
theorem sep_len {j : Nat} (hj : j < 4) : (sepr j).length ≤ 4 := by
  rcases j with _ | _ | _ | _ | j
  · decide
  · decide
  · decide
  · decide
  · exact (no4 hj).elim
theorem written_len {k wy : Nat} (hk : k < 5) (hw : wy < 3) : (written k wy).length ≤ 9 := by
  rcases wy with _ | _ | _ | wy
  all_goals first | exact (no3 hw).elim | skip
  all_goals rcases k with _ | _ | _ | _ | _ | k
  all_goals (first | exact Nat.le_of_ble_eq_true rfl | exact (no5 hk).elim)
theorem dI4 (x : Int) : dI x < 4 ∧ x % 4 = (dI x : Int) := om_mod (x := x) 4 (by decide)
theorem dK6 (x : Int) : dK x < 6 ∧ x / 4 % 6 = (dK x : Int) := om_mod (x := x / 4) 6 (by decide)
theorem dW3 (x : Int) : dW x < 3 ∧ x / 24 % 3 = (dW x : Int) := om_mod (x := x / 24) 3 (by decide)
theorem dJ4 (x : Int) : dJ x < 4 ∧ x / 24 / 3 % 4 = (dJ x : Int) := om_mod (x := x / 24 / 3) 4 (by decide)
end
structure DrLen (z : DrS) : Prop where
  rv : ∀ a, (z.RV a).length ≤ 1000
  tx_ : ∀ a, (z.T a).length ≤ 1000
theorem word_pick' {n k : Nat} (h : n = k) (hk : k < 5) : [Str.ofString "b", Str.ofString "", Str.ofString "it's", Str.ofString "a b", Str.ofString "#\\"].getD n (Str.ofString "b") = wordS k := by subst h; exact word_pick hk
theorem sepS_len (n : Nat) : ([Str.ofString " ", Str.ofString "\t\n", Str.ofString " #'\n", Str.ofString "\r"].getD n (Str.ofString " ")).length ≤ 4 := by
  rcases n with _ | _ | _ | _ | n
  · decide +kernel
  · decide +kernel
  · decide +kernel
  · decide +kernel
  · show (Str.ofString " ").length ≤ 4
    decide +kernel
theorem addWS {k wy n : Nat} (hk : k < 5) (hw : wy < 3) : (tx (written k wy)).length + ([Str.ofString " ", Str.ofString "\t\n", Str.ofString " #'\n", Str.ofString "\r"].getD n (Str.ofString " ")).length ≤ sizeLine := by
  rw [sizeLine_eq, tx_len]
  exact om_le (Nat.add_le_add (written_len hk hw) (sepS_len n)) rfl
theorem iaddT {z : DrS} (hz : DrLen z) {a k wy n : Nat} (hk : k < 5) (hw : wy < 3) : (z.T a).length + (tx (written k wy) ++ [Str.ofString " ", Str.ofString "\t\n", Str.ofString " #'\n", Str.ofString "\r"].getD n (Str.ofString " ")).length ≤ sizeLine := by
  rw [sizeLine_eq, Str.length_append, tx_len (written k wy)]
  exact om_le (Nat.add_le_add (hz.tx_ a) (Nat.add_le_add (written_len hk hw) (sepS_len n))) rfl
theorem drq (x : Int) : x.fmod 4 = (dI x : Int) ∧ (x.fdiv 4).fmod 6 = (dK x : Int) ∧ (x.fdiv 24).fmod 3 = (dW x : Int) ∧ ((x.fdiv 24).fdiv 3).fmod 4 = (dJ x : Int) := by
  have f : ∀ a b : Int, 0 ≤ b → a.fmod b = a % b := fun a b h => Int.fmod_eq_emod_of_nonneg a h
  have v : ∀ a b : Int, 0 ≤ b → a.fdiv b = a / b := fun a b h => Int.fdiv_eq_ediv_of_nonneg a h
  rw [f x 4 (by decide), v x 4 (by decide), f (x / 4) 6 (by decide), v x 24 (by decide), f (x / 24) 3 (by decide), v (x / 24) 3 (by decide), f (x / 24 / 3) 4 (by decide)]
  exact ⟨(dI4 x).2, (dK6 x).2, (dW3 x).2, (dJ4 x).2⟩
theorem dis_ofN {g h : Heap} {L : Addr} {z : DrS} {c : DrC} {c1 c2 r0 el I ax : Addr} {o1 o2 : Obj} {own : List (Addr × Obj)} (_N : News g L h (c.led z ++ ((c1, o1) :: (c2, o2) :: own))) (nd : c.as.Nodup) (lo : ∀ a ∈ c.as, @LE.le Nat _ r0 a ∧ @LE.le Nat _ a el) (h1 : @LT.lt Nat _ c1 r0) (h2 : @LT.lt Nat _ c2 r0) (ho : ∀ p ∈ own, p.1 = I ∨ p.1 = ax) (hI : @LT.lt Nat _ el I) (hx : @LT.lt Nat _ el ax) :
    c.Dis ((c1, o1) :: (c2, o2) :: own) := dis_of nd lo h1 h2 ho hI hx
theorem dr_getT {w : World} {A : Around} {E : Value → Shared → Prop} {s : Shared} {g : Heap} {L : Addr} {led own : List (Addr × Obj)} {c : DrC} {z : DrS} {i : Int} {a : Nat} {t : Tok} {Q : Value → Shared → Prop}
    (N : News g L s.heap led) (sub : ∀ q ∈ c.led z ++ own, q ∈ led) (hi : Idx i a) (h0 : 0 ≤ i) (h : Q (.str (z.T a) (z.tt a)) s) : wpAny (model PG w) A (getItem (.ref c.tl) (.int i t)) Q E s := by
  obtain ⟨ha, hi⟩ := hi
  have hl : s.heap.IsList c.tl #[.str (z.T 0) (z.tt 0), .str (z.T 1) (z.tt 1), .str (z.T 2) (z.tt 2), .str (z.T 3) (z.tt 3)] := ⟨_, (N _ (sub _ (.tail _ (.head _)))).1, rfl, _, rfl⟩
  have e : i.toNat = a := idx_tn h0 ha hi
  refine wpAny_getItem_list hl h0 (idx_63 h0 ha hi) ?_ h
  rw [e]
  rcases a with _ | _ | _ | _ | a
  · rfl
  · rfl
  · rfl
  · rfl
  · exact (no4 ha).elim
theorem draws_succ {xs : List Int} {n : Nat} {x : Int} (h : xs[n]? = some x) : draws (xs.take (n + 1)) = dstep (draws (xs.take n)) x := by
  unfold draws
  rw [List.take_succ, h, List.foldl_append]
  rfl
theorem endS_pick {y : Int} {j : Nat} (h : y = (j : Int)) (hj : j < 3) : [Str.ofString "'x", Str.ofString "\"", Str.ofString "\\"].getD y.toNat (Str.ofString "'x") = tx (tend j) := by
  subst h; exact end_pick hj
theorem sepS_pick {y : Int} {j : Nat} (h : y = (j : Int)) (hj : j < 4) : [Str.ofString " ", Str.ofString "\t\n", Str.ofString " #'\n", Str.ofString "\r"].getD y.toNat (Str.ofString " ") = tx (sepr j) := by
  subst h; exact sep_pick hj
theorem ok_end {d : DS} {z : DrS} {n : Nat} {x : Int} {e : Str} {u : Tok} (hz : DrOk d z n) (hk : dK x = 5) (he : e = tx (tend (dW x))) : DrOk (dstep d x) { z with Es := updF z.Es (dI x) e, et := updF z.et (dI x) u } (n + 1) := by
  unfold dstep
  rw [if_pos hk]
  refine ⟨hz.rv, hz.tx_, fun a => ?_, fun a => Nat.le_succ_of_le (hz.len a), hz.ok, fun a => ?_⟩
  · show updF z.Es (dI x) e a = tx (endText (updF d.en (dI x) (some (dW x)) a))
    unfold updF
    by_cases h : a = dI x
    · rw [if_pos h, if_pos h]; exact he
    · rw [if_neg h, if_neg h]; exact hz.en_ a
  · show EndOk (updF d.en (dI x) (some (dW x)) a)
    unfold updF
    by_cases h : a = dI x
    · rw [if_pos h]; exact (dW3 x).1
    · rw [if_neg h]; exact hz.eok a
theorem ok_word {d : DS} {z : DrS} {n : Nat} {x k : Int} {e : Str} {u v : Tok} (hz : DrOk d z n) (hk : dK x ≠ 5) (ek : k = (dK x : Int)) (he : e = tx (written (dK x) (dW x) ++ sepr (dJ x))) :
    DrOk (dstep d x) { z with RV := updF z.RV (dI x) (z.RV (dI x) ++ [.int k v]), re := updF z.re (dI x) (z.re (dI x) + 1), T := updF z.T (dI x) (z.T (dI x) ++ e), tt := updF z.tt (dI x) u } (n + 1) := by
  unfold dstep
  rw [if_neg hk]
  refine ⟨fun a => ?_, fun a => ?_, hz.en_, fun a => ?_, fun a => ?_, hz.eok⟩
  · show IntsAre (updF z.RV (dI x) (z.RV (dI x) ++ [.int k v]) a) ((updF d.pcs (dI x) (d.pcs (dI x) ++ [⟨dK x, dW x, dJ x⟩]) a).map fun p => (p.k : Int))
    unfold updF
    by_cases h : a = dI x
    · rw [if_pos h, if_pos h, List.map_append]
      subst ek
      exact (hz.rv _).append (IntsAre.cons _ _ IntsAre.nil)
    · rw [if_neg h, if_neg h]; exact hz.rv a
  · show updF z.T (dI x) (z.T (dI x) ++ e) a = tx ((updF d.pcs (dI x) (d.pcs (dI x) ++ [⟨dK x, dW x, dJ x⟩]) a).flatMap Pc.text)
    unfold updF
    by_cases h : a = dI x
    · rw [if_pos h, if_pos h, List.flatMap_append, hz.tx_ (dI x), he, tx_add (List.flatMap Pc.text (d.pcs (dI x)))]
      simp [Pc.text]
    · rw [if_neg h, if_neg h]; exact hz.tx_ a
  · show ((updF d.pcs (dI x) (d.pcs (dI x) ++ [⟨dK x, dW x, dJ x⟩])) a).length ≤ n + 1
    unfold updF
    by_cases h : a = dI x
    · rw [if_pos h, List.length_append]; exact Nat.succ_le_succ (hz.len _)
    · rw [if_neg h]; exact Nat.le_succ_of_le (hz.len a)
  · intro p hp
    change p ∈ updF d.pcs (dI x) (d.pcs (dI x) ++ [⟨dK x, dW x, dJ x⟩]) a at hp
    unfold updF at hp
    by_cases h : a = dI x
    · rw [if_pos h] at hp
      rcases List.mem_append.mp hp with hp | hp
      · exact hz.ok _ p hp
      · rw [List.mem_singleton.mp hp]
        have := (dK6 x).1
        exact ⟨Nat.lt_of_le_of_ne (Nat.lt_succ_iff.mp this) hk, (dW3 x).1, (dJ4 x).1⟩
    · rw [if_neg h] at hp; exact hz.ok a p hp
theorem text_len : ∀ (ps : List Pc), (∀ p ∈ ps, p.ok) → (ps.flatMap Pc.text).length ≤ 13 * ps.length
  | [], _ => Nat.le_refl _
  | p :: ps, h => by
    have ih := text_len ps fun q hq => h q (.tail _ hq)
    obtain ⟨hk, hw, hj⟩ := h p (.head _)
    have a := written_len hk hw
    have b := sep_len hj
    rw [List.flatMap_cons, List.length_append, List.length_cons]
    have c : (Pc.text p).length ≤ 13 := by unfold Pc.text; rw [List.length_append]; exact Nat.add_le_add a b
    exact Nat.le_trans (Nat.add_le_add c ih) (Nat.le_of_eq (Nat.add_comm 13 _))
theorem dr_len {d : DS} {z : DrS} {n : Nat} (hz : DrOk d z n) (hn : n ≤ 70) : DrLen z := ⟨fun a => by
    have := hz.len a
    have e := (hz.rv a).length
    rw [List.length_map] at e
    exact e ▸ om_le (Nat.le_trans (hz.len a) hn) rfl, fun a => by
    have := hz.len a
    have e := text_len _ (hz.ok a)
    rw [hz.tx_, tx_len]
    exact om_le (Nat.le_trans e (Nat.mul_le_mul_left 13 (Nat.le_trans this hn))) rfl⟩
theorem dr_news {g h : Heap} {L : Addr} {c : DrC} {z : DrS} {a b : Addr × Obj} {own : List (Addr × Obj)} (N : News g L h (c.led z ++ (a :: b :: own))) : News g L h (own ++ (c.led z ++ [a, b])) := fun q hq => N q
  ((List.mem_append.1 hq).elim (fun h => List.mem_append_right _ (.tail _ (.tail _ h))) fun h => (List.mem_append.1 h).elim (List.mem_append_left _) fun h => List.mem_append_right _ (List.mem_append_left own h))
theorem dr_off {c : DrC} {z : DrS} {a b : Addr × Obj} {I : Addr} (ha : a.1 ∉ [I]) (hb : b.1 ∉ [I]) (h : ∀ x ∈ c.as, x ∉ [I]) : ∀ p ∈ c.led z ++ [a, b], p.1 ∉ [I] := fun p hp =>
  (List.mem_append.1 hp).elim (fun h1 => h p.1 (List.mem_map_of_mem (f := (·.1)) h1)) fun h1 => (List.mem_cons.1 h1).elim (fun e => e ▸ ha) fun h2 => List.mem_singleton.1 h2 ▸ hb
theorem dr_offs {c : DrC} {z : DrS} {a b : Addr × Obj} {I : Addr} (h : ∀ p ∈ c.led z ++ [a, b], p.1 ∉ [I]) : a.1 ∉ [I] ∧ b.1 ∉ [I] ∧ ∀ x ∈ c.as, x ∉ [I] :=
  ⟨h a (List.mem_append_right _ (.head _)), h b (List.mem_append_right _ (.tail _ (.head _))), fun x hx => by
    obtain ⟨p, hp, rfl⟩ := List.mem_map.1 (show x ∈ (c.led z).map (·.1) from hx)
    exact h p (List.mem_append_left _ hp)⟩
theorem dr_next {g h' : Heap} {L I : Addr} {s₁ : Shared} {tk : Nat} {m : Str → Option Value} {c : DrC} {z : DrS} {a b : Addr × Obj} {own : List (Addr × Obj)} {xs : List Int} {n : Nat} {x : Int}
    (F : Fr g L h' m) (N : News g L h' (c.led z ++ (a :: b :: own))) (hm : m (Str.ofString "rows") = some (.ref c.rl)) (hoff : a.1 ∉ [I] ∧ b.1 ∉ [I] ∧ ∀ x ∈ c.as, x ∉ [I]) (hx : xs[n]? = some x) (ok : DrOk (dstep (draws (xs.take n)) x) z (n + 1)) :
    LoopStepU g L [I] own (fun m news => ∃ (z : DrS) (u : Str → Option Value), m = (fun y => if y = Str.ofString "rows" then some (.ref c.rl) else u y) ∧ news = c.led z ++ [a, b] ∧ DrOk (draws (xs.take (n + 1))) z (n + 1)) s₁ .next { s₁ with heap := h', toks := tk } :=
  ⟨rfl, h', tk, m, _, rfl, F, dr_news N, dr_off hoff.1 hoff.2.1 hoff.2.2, z, m, m_shape1 hm, rfl, (draws_succ hx).symm ▸ ok⟩
structure DrSum (z : DrS) : Prop where
  at_ : ∀ a, (z.T a).length + (z.Es a).length ≤ sizeLine
theorem end_len : ∀ (e : Option Nat), EndOk e → (endText e).length ≤ 4
  | none, _ => Nat.zero_le _
  | some y, h => by
    have h' : y < 3 := h
    rcases y with _ | _ | _ | y
    · decide
    · decide
    · decide
    · exact (no3 h').elim
theorem dr_sum {d : DS} {z : DrS} {n : Nat} (hz : DrOk d z n) (hn : n ≤ 70) : DrSum z := ⟨fun a => by
    have := (dr_len hz hn).tx_ a
    have e := end_len _ (hz.eok a)
    rw [hz.en_, tx_len (endText _), sizeLine_eq]
    exact om_le (Nat.add_le_add this e) rfl⟩
noncomputable abbrev drRes (D lt le rl : Addr) (ra : Nat → Addr) (RV : Nat → List Value) (re : Nat → Nat) (T : Nat → Str) (tt : Nat → Tok) (b : Nat → Bool) : List (Addr × Obj) :=
  [(D, { cls := .type "tuple", data := .seq #[.ref rl, .ref lt, .ref le] }), (le, LCg.lst [.bool (b 0), .bool (b 1), .bool (b 2), .bool (b 3)]), (lt, LCg.lst [.str (T 0) (tt 0), .str (T 1) (tt 1), .str (T 2) (tt 2), .str (T 3) (tt 3)]),
    (rl, W.listOf #[.ref (ra 0), .ref (ra 1), .ref (ra 2), .ref (ra 3)] 0), (ra 0, W.listOf (RV 0).toArray (re 0)), (ra 1, W.listOf (RV 1).toArray (re 1)), (ra 2, W.listOf (RV 2).toArray (re 2)), (ra 3, W.listOf (RV 3).toArray (re 3))]
structure Drawn (d : DS) (RV : Nat → List Value) (T : Nat → Str) (b : Nat → Bool) : Prop where
  rv : ∀ a, IntsAre (RV a) ((d.pcs a).map fun p => (p.k : Int))
  tx_ : ∀ a, T a = tx ((d.pcs a).flatMap Pc.text ++ endText (d.en a))
  b_ : ∀ a, b a = (d.en a).isSome
  len : ∀ a, (d.pcs a).length ≤ 19
  ok : ∀ a, ∀ p ∈ d.pcs a, p.ok
  eok : ∀ a, EndOk (d.en a)
theorem end_some : ∀ (e : Option Nat), EndOk e → (tx (endText e) != Str.ofString "") = e.isSome
  | none, _ => by decide +kernel
  | some y, h => by
    have h' : y < 3 := h
    rcases y with _ | _ | _ | y
    · decide +kernel
    · decide +kernel
    · decide +kernel
    · exact (no3 h').elim
theorem drawn_of {d : DS} {z : DrS} {n : Nat} (hz : DrOk d z n) (hn : n ≤ 19) : Drawn d z.RV (fun a => z.T a ++ z.Es a) (fun a => z.Es a != Str.ofString "") :=
  ⟨hz.rv, fun a => by rw [hz.tx_, hz.en_, tx_add], fun a => by rw [hz.en_]; exact end_some _ (hz.eok a), fun a => Nat.le_trans (hz.len a) hn, hz.ok, hz.eok⟩
noncomputable def sel4t (a b c d : Tok) : Nat → Tok
  | 0 => a
  | 1 => b
  | 2 => c
  | _ => d
theorem script_len (ns : List Int) : ([70] ++ ns.take 10 ++ [0, 4, 1, 13, 2, 62, 3, 31] : List Int).length ≤ 19 := by
  simp only [List.length_append, List.length_take, List.length_cons, List.length_nil]
  exact om_mn2 rfl
theorem at_len {α : Type} {xs : List α} {n k : Nat} {x : α} (h : xs[n]? = some x) (hl : xs.length ≤ k) : n ≤ k := by
  exact Nat.le_trans (Nat.le_of_lt (List.getElem?_eq_some_iff.mp h).1) hl
theorem dr_sub {α : Type} {a1 a2 a3 a4 a5 a6 a7 a8 a9 a10 a11 a12 x : α} (h : x ∈ [a1, a2, a3, a4, a7, a8, a9, a10]) : x ∈ [a1, a2, a3, a4, a5, a6, a7, a8, a9, a10, a11, a12] :=
  List.Sublist.subset (.cons_cons _ (.cons_cons _ (.cons_cons _ (.cons_cons _ (.cons _ (.cons _ (.cons_cons _ (.cons_cons _ (.cons_cons _ (.cons_cons _ (.cons _ (.cons _ .slnil)))))))))))) h
theorem none_kept {h g : Heap} {a : Addr} (K : Kept [] h g) (e : g.get? a = none) : h.get? a = none := by
  cases q : h.get? a with
  | none => rfl
  | some o => rw [K a o q List.not_mem_nil] at e; cases e
theorem dr_fin {g h : Heap} {L D lt le : Addr} {c : DrC} {z : DrS} {t0 t1 t2 t3 : Tok} {a5 a6 a11 a12 : Addr × Obj}
    (N : News g L h [(D, { cls := .type "tuple", data := .seq #[.ref c.rl, .ref lt, .ref le] }), (le, LCg.lst [.bool (z.Es 0 != Str.ofString ""), .bool (z.Es 1 != Str.ofString ""), .bool (z.Es 2 != Str.ofString ""), .bool (z.Es 3 != Str.ofString "")]),
      (lt, LCg.lst [.str (z.T 0 ++ z.Es 0) t0, .str (z.T 1 ++ z.Es 1) t1, .str (z.T 2 ++ z.Es 2) t2, .str (z.T 3 ++ z.Es 3) t3]), (c.rl, W.listOf #[.ref (c.ra 0), .ref (c.ra 1), .ref (c.ra 2), .ref (c.ra 3)] 0), a5, a6,
      (c.ra 0, W.listOf (z.RV 0).toArray (z.re 0)), (c.ra 1, W.listOf (z.RV 1).toArray (z.re 1)), (c.ra 2, W.listOf (z.RV 2).toArray (z.re 2)), (c.ra 3, W.listOf (z.RV 3).toArray (z.re 3)), a11, a12]) :
    ∀ x ∈ drRes D lt le c.rl c.ra z.RV z.re (fun a => z.T a ++ z.Es a) (sel4t t0 t1 t2 t3) (fun a => z.Es a != Str.ofString ""), h.get? x.1 = some x.2 ∧ g.get? x.1 = none := fun x hx => ⟨(N x (dr_sub hx)).1, (N x (dr_sub hx)).2.2⟩
section
open PyProof.Rows.LCg
variable {prog : Program} {w : World} {A : Around} {s : Shared} {h₀ : Heap} {L : Addr} {m : Str → Option Value} {env : Env}
theorem comp_next {elt : Expr} {x : Str} {scope : Scope} {cl : List (Str × Addr)} {S : List (Addr × Obj) → Prop} {P : Nat → Value → Prop} {Fin : List Value → List (Addr × Obj) → Prop} {k i : Nat} {ys : List Value} {news : List (Addr × Obj)} {V : Tok → Value} (hP : ∀ v, P i v → ∃ t, v = V t)
    (h : ∀ t I oI C oC D m₂ h tk (E' q : Value → Shared → Prop), (∀ y s', CompEnd h₀ L m { s with heap := h, toks := tk } I oI C oC D (lst ys) S (fun y news' => CompRest prog w A h₀ L m env elt x scope cl s S P Fin k (i + 1) (ys ++ [y]) news') y s' → q y s') → NsObj oC m₂ → m₂ x = some (V t) → Fr h₀ L h m →
      News h₀ L h ((I, oI) :: (C, oC) :: (D, lst ys) :: news) → Off3 I C D news → ((@Ne Nat I C) ∧ (@Ne Nat I D) ∧ (@Ne Nat C D)) → wpAny (model prog w) A (eval elt (compEnvC scope cl C env)) q E' { s with heap := h, toks := tk }) :
    CompRest prog w A h₀ L m env elt x scope cl s S P Fin (k + 1) i ys news := fun v I oI C oC D m₂ h' tk E' hv hC hx F N o n => by
  obtain ⟨t, rfl⟩ := hP v hv
  exact h t I oI C oC D m₂ h' tk E' _ (fun _ _ h => h) hC hx F N o n
end
end
section
theorem fill_Dw : PySem.Challenge.rw_ij0136_01 = PySem.Challenge.rw_ij0136_01 ∧ pre.heap_1 = pre.heap_1 := by
  k_with_none
  k_with "my rel" => (repeat' (first | (k_unfold; (try dsimp only)) | walk1 | walk_at "my next" | (dsimp only; walk1) | (leave1; try dsimp only) | fail "no step"))
  k_with "my room" => (((try simp only [depth_mark, depth_under_make, depth_under_kw, depth_in1, depth_deeper, depth_caller]); (try dsimp only [ar]); omega))
  k_with "my units" => ((have hcL9 := cLine_is; (try simp only [units_in1, units_deeper, Around.mark_units, units_caller]); (try dsimp only [ar]); omega))
  k_with "my unf" => ((refine' enter ?k1 ?k2 ?k3 ?k4 ?k6 ?k7 ?k8 ?k9 ?kB ?_ ?c2 ?c3 ?c4 ?c5; (case k1 => assumption); (case k2 => assumption); (case k3 => assumption); (case k4 => assumption); (case k6 => k_is); (case k7 => k_is); (case k8 => k_room); (case k9 => first | exact BindsTo.of_eq rfl | exact binds_K (Frag.In.keeps (by assumption) (Below.stays (by assumption))) rfl (by k_is) rfl rfl rfl); (case c5 => decide); (case kB => exact locs rfl); (case c2 => exact rfl); (case c3 => exact rfl); (case c4 => exact rfl); k_whole; intro g' L' h' G' F' N' B' X' T'; (try simp only [List.map_cons, List.map_nil] at G'); (try dsimp only); (try k_fold)))
  k_with "subscriptTail Attribute Name Slice str ref" => (((with_reducible rename Fr _ _ _ _ => F'); (with_reducible rename News _ _ _ _ => N'); (refine slice_strN_ss (hsz := ?hsz) (s := ⟨_, _, _, _, _⟩) F' N' ?_); (case hsz => (rw [sizeLine_eq]; omega)); intro h' t' tk' F' N'; (try k_sweep)))
  k_with "subscriptTail BinOp Subscript Add Constant Slice str ref" => (((with_reducible rename Fr _ _ _ _ => F'); (with_reducible rename News _ _ _ _ => N'); (refine slice_strN_ns (hsz := ?hsz) (s := ⟨_, _, _, _, _⟩) F' N' ?_); (case hsz => exact size_sl (by with_reducible assumption)); intro h' t' tk' F' N'; (try k_sweep)))
  k_with "call builtin:str.find" => (refine find4 ?_)
  k_with "my apart" => (repeat' (first | (refine List.forall_mem_cons.2 ⟨⟨?_, ?_⟩, ?_⟩) | exact List.forall_mem_nil _ | with_reducible assumption | (apply Ne.symm; with_reducible assumption)))
  k_with "binaryOp Add str str" => (((refine add_str (hsz := size_slc (by with_reducible assumption)) ?_); intro _ _))
  k_with "execs cons" => (((try dsimp only); first | (with_reducible refine nx_last ?_) | ((with_reducible refine nx_cons ?_); intro q' nx')))
  k_with "execs nil" => (with_reducible refine wpAny_execs_nil ?_)
  k_with "my next" => (with_reducible first | refine trq_b ?_ | refine ifq_t ?_ | refine ifq_f ?_ | refine ifq ?_ | refine trq ?_ | refine nx_next (by assumption) ?_ | refine nx_ret (by assumption) ?_ | refine nx_brk (by assumption) ?_ | refine nx_cont (by assumption) ?_)
  k_with "eval Constant int" => (((with_reducible refine int_T ?_); intro t' tk'))
  k_with "eval Constant str" => (((with_reducible refine str_T ?_); intro t' tk'))
  k_with "my nth" => (with_reducible first | exact nth_0 | exact nth_1 | exact nth_2 | exact nth_3 | exact nth_4 | exact nth_5 | exact nth_6)
  k_with "my ne" => (first | with_reducible assumption | exact Ne.symm (by with_reducible assumption) | k_ne)
  k_with "my allne" => (first | with_reducible exact all_nil | (refine' all_cons ?a ?b; (case a => walk_at "my ne"); (case b => walk_at "my allne")))
  k_with "my upd" => (first | (refine' upd_head ?a; (case a => walk_at "my allne")) | (refine' upd_tail ?a ?b; (case a => walk_at "my ne"); (case b => walk_at "my upd")))
  k_with "eval Name" => ((k_here; (with_reducible first | show wpAny _ _ (PySem.eval _ (envOf _ _ _ _ _)) _ _ _ | show wpAny _ _ (PySem.eval _ (envX _ _ _ _ _ _)) _ _ _); k_dflt (refine' name_T ?F ?v ?o ?_; (case F => k_asm); (case o => exact rfl); (case v => rfl); k_whole)))
  k_with "eval Attribute Name" => ((k_here; (with_reducible first | show wpAny _ _ (PySem.eval _ (envOf _ _ _ _ _)) _ _ _ | show wpAny _ _ (PySem.eval _ (envX _ _ _ _ _ _)) _ _ _); k_dflt (refine' own_T ?F ?x ?lo ?X ?N ?h1 ?h2 ?ok ?ho ?hl ?hv ?_; (case F => k_asm); (case lo => exact rfl); (case x => exact rfl); (case X => k_asm); (case N => k_asm); (case h1 => walk_at "my nth"); (case h2 => walk_at "my nth"); (case ok => (intro P9; kernel_rfl)); (case ho => first | exact rfl | walk_at "my isD"); (case hl => first | k_get | walk_at "my getl"); (case hv => first | exact rfl | k_handed); k_whole); intro tk'))
  k_with "getAttr ref" => ((k_here; k_dflt (refine' get_T ?F ?X ?N ?h1 ?h2 ?ok ?ho ?hl ?hv ?_; (case F => k_asm); (case X => k_asm); (case N => k_asm); (case h1 => walk_at "my nth"); (case h2 => walk_at "my nth"); (case ok => (intro P9; kernel_rfl)); (case ho => first | exact rfl | walk_at "my isD"); (case hl => first | k_get | walk_at "my getl"); (case hv => first | exact rfl | k_handed); k_whole); intro tk'))
  k_with "storeName" => ((k_here; (with_reducible first | show wpAny _ _ (PySem.storeName (envOf _ _ _ _ _)  _ _) _ _ _ | show wpAny _ _ (PySem.storeName (envX _ _ _ _ _ _)  _ _) _ _ _); k_dflt (refine' store_T ?F ?N ?o ?_; (case F => k_asm); (case N => k_asm); (case o => exact rfl); k_whole); intro h' tk' F' N'; (try k_sweep)))
  k_with "setAttr ref" => ((k_here; k_dflt (refine' set_T ?F ?X ?N ?h1 ?h2 ?ok ?e ?U ?_; (case F => k_asm); (case X => k_asm); (case N => k_asm); (case h1 => walk_at "my nth"); (case h2 => walk_at "my nth"); (case ok => (intro P9; kernel_rfl)); (case e => walk_at "my puts"); (case U => walk_at "my upd"); k_whole); intro h' tk' F' N'; (try k_sweep)))
  k_with "ite" => (first | with_reducible refine ite_tt ?_ | with_reducible refine ite_ff ?_)
  k_with "my ofb" => (with_reducible first | exact Nat.ne_of_beq_eq_false rfl | exact off1 | exact ffo1 | exact off2 | exact ffo2 | exact off3 | exact ffo3 | exact off4 | exact ffo4 | exact off5 | exact ffo5 | exact off6 | exact ffo6)
  k_with "my off" => (with_reducible first | walk_at "my ofb" | (refine strip ?_; first | walk_at "my ofb" | (refine strip ?_; first | walk_at "my ofb" | (refine strip ?_; first | walk_at "my ofb" | (refine strip ?_; first | walk_at "my ofb" | (refine strip ?_; walk_at "my ofb"))))))
  k_with "my omega" => (with_reducible first | (show _ < _; first | exact room (by assumption) rfl | exact room0 (by assumption) | exact room2 (by assumption) rfl | exact room3 (by assumption) rfl | exact room4 (by assumption) rfl | exact room5 (by assumption) rfl | exact lt_ble rfl | exact om_i63' (by assumption) rfl | exact om_i63 (by assumption) rfl | exact Nat.succ_lt_succ (by assumption) | exact Nat.lt_of_succ_lt_succ (by assumption) | exact Int.ofNat_lt.2 (by assumption) | exact Int.ofNat_lt.1 (by assumption)) | (show _ ≤ _; first | exact Nat.le_of_ble_eq_true rfl | exact Nat.le_refl _ | exact Nat.le_succ _ | exact Nat.le_add_right _ _ | exact om_ltle (by assumption) rfl | exact om_le (by assumption) rfl | exact Nat.le_of_lt (by assumption) | exact Int.ofNat_le.2 (by assumption) | exact Int.natCast_nonneg _ | exact Int.ofNat_le.1 (by assumption) | exact om_addl rfl) | (show _ ≠ _; first | walk_at "my off" | exact om_nne (by assumption)) | (show _ = _; first | exact om_nn (by assumption)) | (show False; first | exact no3 (by assumption) | exact no4 (by assumption) | exact no5 (by assumption) | exact no6 (by assumption)) | fail "no")
  k_with "my cmp" => (((case F => k_asm); (case o => exact rfl); (case v => rfl)))
  k_with "isTrue Compare" => (first | (k_here; (with_reducible first | show wpAny _ _ (isTrue _ (envOf _ _ _ _ _) _) _ _ _ | show wpAny _ _ (isTrue _ (envX _ _ _ _ _ _) _) _ _ _); first | ((with_reducible show wpAny _ _ (isTrue (.Compare (.Name _ _) [_] [.Constant (.str _) _ _] _) _ _) _ _ _); k_dflt (refine' cmp_s ?F ?v ?o ?_ ?m; walk_at "my cmp"; (case m => with_unfolding_all rfl); k_whole; intro t' tk')) | ((with_reducible show wpAny _ _ (isTrue (.Compare (.Name _ _) [_] [.Constant (.int _) _ _] _) _ _) _ _ _); k_dflt (refine' cmp_i ?F ?v ?o ?_ ?m; walk_at "my cmp"; (case m => with_unfolding_all rfl); k_whole; intro t' tk')) | ((with_reducible show wpAny _ _ (isTrue (.Compare (.Name _ _) [_] [.Constant .none _ _] _) _ _) _ _ _); k_dflt (refine' cmp_n ?F ?v ?o ?_ ?m; walk_at "my cmp"; (case m => with_unfolding_all rfl); k_whole)) | ((with_reducible show wpAny _ _ (isTrue (.Compare (.Name _ _) [_] [.Name _ _] _) _ _) _ _ _); k_dflt (refine' cmp_nn ?F ?v ?o ?u ?p ?_ ?m; walk_at "my cmp"; (case p => exact rfl); (case u => rfl); (case m => with_unfolding_all rfl); k_whole))) | with_reducible refine cmp_1 ?_)
  k_with "exec If" => (with_reducible refine if_T ?_)
  k_with "my puts" => (first | with_reducible exact lex_state | with_reducible exact lex_token | with_reducible exact lex_line | with_reducible exact sio_pos)
  k_with "ite" => (first | with_reducible refine ite_tt ?_ | with_reducible refine ite_ff ?_)
  k_with "ktr_unfC" => ((refine' enterCC ?k1 ?k2 ?k3 ?k6 ?k7 ?k8 ?k9 ?kB ?kD ?_ ?c2 ?c3 ?c4; (case k1 => assumption); (case k2 => assumption); (case k3 => assumption); (case k6 => k_is); (case k7 => k_is); (case k8 => k_room); (case k9 => first | exact BindsTo.of_eq rfl | exact binds_K (Frag.In.keeps (by assumption) (Below.stays (by assumption))) rfl (by k_is) rfl rfl rfl); (case kB => exact rfl); (case kD => decide +kernel); (case c2 => exact rfl); (case c3 => exact rfl); (case c4 => exact rfl); k_whole; intro g' L' h' tk' cells' G' F' N' Y' B' X' T'; k_cells Y'; (try simp only [List.cons_append, List.nil_append] at N'); (try dsimp only); (try k_fold)))
  k_with "my omega" => (with_reducible first | (show _ < _; first | exact om_c3 (by assumption) (by assumption) | exact om_c4 (by assumption) (by assumption) | exact om_k5 (by assumption) (by assumption) (by assumption) | exact om_y5 (by assumption) (by assumption) (by assumption)) | (show _ ≤ _; first | exact om_mn1 | exact om_mn2 rfl | exact om_c0 (by assumption)) | (show _ = _; exact om_ke (by assumption) (by assumption)) | (show _ ≠ _; exact om_kne (by assumption) (by assumption)) | fail "no")
  k_with "my sub" => (first | exact fun _ h => h | exact fun _ h => .tail _ h | exact fun _ h => .tail _ (.tail _ h) | exact fun _ h => .tail _ (.tail _ (.tail _ h)) | exact fun _ h => .tail _ (.tail _ (.tail _ (.tail _ h))))
  k_with "subscriptTail" => (((with_reducible show wpAny _ _ (subscriptTail _ _ (Value.ref (DrC.rl _)) _) _ _ _); (with_reducible rename News _ _ _ _ => N'); k_dflt (refine' dr_row N' ?s ?i ?_; (case s => walk_at "my sub"); (case i => with_reducible assumption))))
  k_with "subscriptTail" => (((with_reducible show wpAny _ _ (subscriptTail _ _ (Value.ref (DrC.tl _)) _) _ _ _); (with_reducible rename News _ _ _ _ => N'); k_dflt (refine' dr_text N' ?s ?i ?_; (case s => walk_at "my sub"); (case i => with_reducible assumption))))
  k_with "subscriptTail" => (((with_reducible show wpAny _ _ (subscriptTail (Expr.List _ _) _ _ _) _ _ _); (with_reducible rename News _ _ _ _ => N'); k_dflt (first | (refine' pick3s N' (.head _) ?a ?b ?_; (case a => omega); (case b => omega)) | (refine' pick4s N' (.head _) ?a ?b ?_; (case a => omega); (case b => omega)) | (refine' pick5s N' (.head _) ?a ?b ?_; (case a => omega); (case b => omega))); intro u'))
  k_with "getMethod ref" => (((with_reducible rename News _ _ _ _ => N'); k_dflt (refine' dr_meth N' ?s ?a ?_; (case s => walk_at "my sub"); (case a => with_reducible assumption))))
  k_with "call builtin:list.append" => (((with_reducible rename Fr _ _ _ _ => F'); (with_reducible rename News _ _ _ _ => N'); (with_reducible rename DrC.Dis _ _ => D9'); k_dflt (refine' dr_app F' N' ?s D9' ?a ?l ?_; (case s => walk_at "my sub"); (case a => with_reducible assumption); (case l => walk_at "my rvlen")); intro h' F' N'))
  k_with "setItem ref int" => (((with_reducible rename Fr _ _ _ _ => F'); (with_reducible rename News _ _ _ _ => N'); (with_reducible rename DrC.Dis _ _ => D9'); k_dflt (first | (refine' dr_setT F' N' ?s D9' ?i ?z ?_; (case s => walk_at "my sub"); (case i => with_reducible assumption); (case z => omega)) | (refine' dr_setE F' N' ?s D9' ?i ?z ?_; (case s => walk_at "my sub"); (case i => with_reducible assumption); (case z => omega))); intro h' F' N'))
  k_with "call ref" => (((with_reducible show wpAny _ _ (call (Value.ref 747) _) _ _ _); (try dsimp only [List.cons_append, List.nil_append]); (with_reducible rename Fr _ _ _ _ => F'); (with_reducible rename News _ _ _ _ => N'); (refine' k_written ?B F' N' ?X ?T rfl rfl ?k ?w ?x ?z ?dp ?un ?_; (case B => with_reducible assumption); (case X => with_reducible assumption); (case T => with_reducible assumption); (case x => walk_at "my word"); (case z => with_reducible assumption); (case k => omega); (case w => omega); (case dp => omega); (case un => omega)); intro t' h' tk' F' N'))
  k_with "my word" => (exact word_pick' (by with_reducible assumption) (by omega))
  k_with "my rvlen" => (((with_reducible rename DrLen _ => hl9'); exact hl9'.rv _))
  k_with "binaryOp Add str str" => (((first | refine add_str (hsz := addWS (by omega) (by omega)) ?_ | ((with_reducible rename DrSum _ => hs9'); refine add_str (hsz := hs9'.at_ _) ?_)); intro _ _))
  k_with "inplaceOp Add str str" => (((with_reducible rename DrLen _ => hl9'); k_dflt (refine iadd_str (hsz := iaddT hl9' (by omega) (by omega)) ?_); intro _ _))
  k_with "getItem ref int" => (((with_reducible show wpAny _ _ (getItem (Value.ref (DrC.tl _)) _) _ _ _); (with_reducible rename News _ _ _ _ => N'); k_dflt (refine' dr_getT N' ?s ?i ?z ?_; (case s => walk_at "my sub"); (case i => with_reducible assumption); (case z => omega))))
  k_with "eval ListComp" => ((k_here; k_dflt (refine LCg.ListComp_U (F₀ := by k_asm) (by with_unfolding_all rfl) (by decide) (by rfl) (by decide) (by rfl) ?_); k_dflt lcg_toSrc))
  k_with "exec Assign cons ListComp" => ((k_here; k_dflt (refine LCg.Assign_ListComp_U (F₀ := by k_asm) (by rfl) (by with_unfolding_all rfl) (by with_unfolding_all rfl) (by decide) (by rfl) (by decide) (by rfl) (by rfl) (by rfl) ?_); k_dflt lcg_toSrc))
  k_with "CompSrc" => ((k_here; k_dflt (first | (refine LCg.CompSrc.range (by rfl) (by k_asm) (by k_asm) (by assumption) (by first | decide | rfl) (by first | rfl | decide) (by first | size_fits | exact Nat.le_of_ble_eq_true rfl) ?_; intro g'; lcg_lit) | (refine LCg.CompSrc.ledger (by rfl) (by k_asm) (by k_asm) (by k_mem) (by first | size_fits | exact Nat.le_of_ble_eq_true rfl) ?_; intro g'; lcg_lit))))
  k_with "CompRest" => ((with_unfolding_all first | (refine comp_next (fun _ h => h) ?_; intro t9' I' oI' C' oC' D' m' h' tk' E' q9' hq9' hC' hx' F' N' off' ne'; (have o9' := off'); (try simp only [LCg.Off3, and_true] at off')) | (refine LCg.CompRest.succ ?_; intro v' I' oI' C' oC' D' m' h' tk' E' hv' hC' hx' F' N' off' ne'; (first | lcg_open hv' | (obtain ⟨t9', hv9'⟩ := hv'; subst hv9')); (have o9' := off'); (try simp only [LCg.Off3, and_true] at off')) | refine LCg.CompRest.zero ?_))
  k_with "CompEnd" => (((with_reducible rename LCg.Off3 _ _ _ _ => o9'); (with_reducible rename Fr _ _ _ _ => F9'); (with_reducible rename News _ _ _ _ => N9'); refine LCg.CompEnd.intro F9' N9' _ (fun _ h => h) o9' (by first | exact True.intro | exact Or.inr ⟨_, by k_mem, rfl, _, rfl⟩) ?_))
  k_with "my next" => (with_reducible refine hq9' _ _ ?_)
  k_with "my prj" => (with_reducible first | assumption | exact prj0 (by assumption) | exact prj1 (by assumption) | exact prj2 (by assumption) | exact prj3 (by assumption) | exact prj4 (by assumption) | exact prj5 (by assumption) | exact prj6 (by assumption) | exact prj7 (by assumption) | exact prj8 (by assumption) | exact prj9 (by assumption) | exact prl1 (by assumption) | exact prl2 (by assumption) | exact prl3 (by assumption) | exact prl4 (by assumption) | exact prl5 (by assumption) | exact prl6 (by assumption) | exact prl7 (by assumption) | exact prl8 (by assumption) | exact prl9 (by assumption))
  k_with "my lt" => (first | walk_at "my prj" | (with_reducible refine' Nat.lt_trans ?a ?b; (case b => with_reducible assumption); (case a => walk_at "my prj")))
  k_with "my omega" => (with_reducible first | (show _ ≠ _; first | (refine lt_ne ?_; walk_at "my lt") | (refine gt_ne ?_; walk_at "my lt")) | (show _ < _; walk_at "my prj"))
  k_fill
  exact ⟨rfl, rfl⟩
theorem lines_Dw_0 : True := by
  k_with "exec For" => (refine stop_here ?_)
  trivial
theorem c_drawn {base : Heap} {s : Shared} {R : Result → Shared → Prop} {sc : Addr} {vs : List Value} {ns : List Int}
    (B : Below (ar dp un gd outs) base outs s.heap) (X : (pre.heap_1 w.params).In base) (TT : Top p loose mean mg mb base)
    (V : Free base outs s.heap []) (hdp : dp + 50 < recursionLimit) (hu : un + 230 < cLine) (hsc : s.heap.IsList sc vs.toArray) (hv : IntsAre vs ns) (hlen : ns.length ≤ 63)
    (ret : ∀ (D lt le rl : Addr) (ra : Nat → Addr) (RV : Nat → List Value) (re : Nat → Nat) (T : Nat → Str) (tt : Nat → Tok) (b : Nat → Bool) (d : DS) h' tk', Drawn d RV T b → Kept [] s.heap h' → (∀ x ∈ drRes D lt le rl ra RV re T tt b, h'.get? x.1 = some x.2) →
      (∀ x ∈ drRes D lt le rl ra RV re T tt b, s.heap.get? x.1 = none) → R (.ok (.ret (.ref D))) { s with heap := h', toks := tk' }) :
    codeAny (model PG w) (ar dp un gd outs) (.call (.ref 752) ⟨[.ref sc], []⟩) R s := by
  k_dflt walk_at "ktr_unfC"
  with_reducible rename Kept _ _ _ => K'
  have hsc' : Heap.IsList _ sc vs.toArray := isList_keeps (fun b o e => K' b o e List.not_mem_nil) hsc
  clear hsc
  ktr_rel
  unfold Stop
  with_reducible rename Fr _ _ _ _ => F'
  refine for_ints F' rfl rfl rfl ?_ ?_ ?_
  rotate_left
  · intro _; rfl
  · first | passes_own | with_unfolding_all passes_own
  ktr_rel
  with_reducible rename Fr _ _ _ _ => F'
  with_reducible rename News _ _ _ _ => N'
  with_reducible rename IntsAre _ ([70] ++ _ ++ _) => hI
  obtain ⟨c, z0, cells, ec, e1, e2, e3, e4, N0, nd, lo, hz0⟩ := dr_begin N' (List.mem_of_getElem? (i := 8) rfl) (List.mem_of_getElem? (i := 7) rfl) (List.mem_of_getElem? (i := 6) rfl) (List.mem_of_getElem? (i := 12) rfl) (List.mem_of_getElem? (i := 11) rfl) (List.mem_of_getElem? (i := 10) rfl) (List.mem_of_getElem? (i := 9) rfl) (List.mem_of_getElem? (i := 13) rfl) (List.mem_of_getElem? (i := 14) rfl) (by omega) (by omega) (by omega) (by omega) (by omega) (by omega)
  have hax := (N' _ (List.mem_of_getElem? (i := 0) rfl)).1
  have hnx := (N' _ (List.mem_of_getElem? (i := 0) rfl)).2.1
  subst e1 e2 e3
  refine forI_of (fun (_ : DrS) u y => if y = Str.ofString "rows" then some (.ref c.rl) else u y) (fun z (_ : Str → Option Value) => c.led z ++ cells) (fun n z _ => DrOk (draws (([70] ++ List.take 10 ns ++ [0, 4, 1, 13, 2, 62, 3, 31]).take n)) z n) z0 _ ⟨_, hax, rfl, _, rfl⟩ hI ?_ F' N0 (m_shape1 rfl) rfl hz0 ?_ ?_
  · exact hnx
  · intro n x t z u h₁ tk₁ own I Q' hq hn hz F1 N1 hoff hown hIn
    subst ec
    have N' := dr_turn_news N1
    clear N1 N0
    have hel : @LT.lt Nat _ c.el I := hIn (c.el, _) (.tail _ (.tail _ (.head _)))
    have D := dis_ofN N' nd lo (by omega) (by omega) hown hel (by omega)
    clear hIn
    have hof := dr_offs hoff
    obtain ⟨q1, q2, q3, q4⟩ := drq x
    have qk := (dK6 x).1
    have qw := (dW3 x).1
    have qj := (dJ4 x).1
    have qi := (dI4 x).1
    have hi : Idx (x.fmod 4) (dI x) := ⟨qi, .inl q1⟩
    have q2' : ((x.fdiv 4).fmod 6).toNat = dK x := by rw [q2]; rfl
    have hl : DrLen z := dr_len hz (Nat.le_trans (at_len hn (script_len ns)) (by decide))
    ktr_rel
    all_goals (with_reducible rename Fr _ _ _ _ => F9)
    all_goals (with_reducible rename News _ _ _ _ => N9)
    · refine hq _ _ (dr_next F9 N9 (by rfl) hof hn ?_)
      exact ok_end hz (by omega) (endS_pick q3 qw)
    · refine hq _ _ (dr_next F9 N9 (by rfl) hof hn ?_)
      refine ok_word hz (by omega) q2 ?_
      rw [sepS_pick q4 qj, tx_add]
  · intro h' tk z u F9 N9 hz
    subst ec
    have hd := script_len ns
    rw [List.take_length] at hz
    have hsu : DrSum z := dr_sum hz (Nat.le_trans hd (by decide))
    clear N0
    dsimp only [DrC.led, List.cons_append, List.nil_append] at N9
    ktr_rel
    with_reducible rename Fr _ _ _ _ => F7
    with_reducible rename News _ _ _ [_, _, _, _, _, _, _, _, _, _, _, _] => N7
    have R7 := dr_fin N7
    exact ret _ _ _ _ _ _ _ _ _ _ _ _ _ (drawn_of hz hd) (kept_of K' F7) (fun x hx => (R7 x hx).1) fun x hx => none_kept K' (R7 x hx).2
end
section
open PySem.W.X PySem.Builtin
set_option autoImplicit false
theorem enterXE {w : World} {s : Shared} {base : Heap} {outs : List Env} {p : Program} {loose : List Str} {mean : ExcName → Option Value} {mg mb : Str → Option Value} {dp un : Nat} {gd : Option (List Code)}
    {R : Result → Shared → Prop} {name qual : Str} {params : Arguments} {body : Expr} {scope : Scope} {cl : List (Str × Addr)} {pm ct : Value} {c' f : Addr} {args : Args} {binds : List (Str × Value)}
    (B : Below (ar dp un gd outs) base outs s.heap) (T : Top p loose mean mg mb base)
    (ho : s.heap.get? f = some (kla_obj name qual params body scope cl pm c' ct)) (hcd : s.heap.CodeRec (.ref c') qual) (hroom : dp < recursionLimit)
    (hbind : BindsTo s (kla_fn name qual params body scope cl pm (.ref c') ct) args binds) (hloc : ∀ y ∈ binds, scope.names.lookup y.1 = some .local)
    (h : ∀ g L' h₁, Kept [] s.heap g → Fr g L' h₁ (fun y => binds.reverse.lookup y) → Below (ar dp un gd outs) base outs g → base.StaysIn g →
      wpAny (model PG w) ((ar dp un gd outs).deeper (envX qual scope L' f (.ref c') cl)) (eval body (envX qual scope L' f (.ref c') cl))
        (fun v s' => EndR R v s')
        (fun e s' => wpAny (model PG w) ((ar dp un gd outs).deeper (envX qual scope L' f (.ref c') cl)) (leaving (envX qual scope L' f (.ref c') cl) e) (fun _ s'' => R (.error e) s'') (fun e' s'' => R (.error e') s'') s')
        { s with heap := h₁, toks := s.toks + binds.length })
    (hco : scope.isCoroutine = false) (hgen : scope.isGenerator = false) (hk : scope.kind = .function)
    (hcell : ∀ x ∈ scope.names, x.2 ≠ .cell) : codeAny (model PG w) (ar dp un gd outs) (.call (.ref f) args) R s := by
  refine kla_callFunE hroom ho rfl hco hgen rfl hcd (hbind _ _ _ _ ?_)
  refine wpAny_newFunctionEnv hcell hloc (fun h₁ hns hsb => ⟨(T.nolimit.keeps B.stays).fresh _ hsb, ?_⟩) hk
  show codeAny _ _ (.expr body (envX qual scope s.heap.objs.size f (.ref c') cl)) _ _
  have hk₁ : ∀ b o, s.heap.get? b = some o → h₁.get? b = some o := fun b o e => hsb.extBut b o (Nat.ne_of_lt (Heap.lt_size e)) (Heap.get?_push_of_some _ e)
  exact kla_codeExpr (h s.heap s.heap.objs.size h₁ (fun b o e n => e) ⟨hns, fun b o e => hk₁ b o e, Nat.le_refl _⟩ B B.stays)
section
variable {base g : Heap} {L : Addr} {m : Str → Option Value} {env : Env} {s : Shared} {E : Value → Shared → Prop} {Q : Value → Shared → Prop} {led : List (Addr × Obj)} {vn : Value} {Z : KCls} {x dx y dy : Addr} {la lb ka kb : List Nat} {na nb : Bool} {ta tb : Tok} {r : Option Int}
theorem k_keyB {u v : Value} (S : Stand (Z.led w.params vn v) base) (hk : Z.Ok w.params)
    (B : Below (ar dp un gd outs) base outs g) (F : Fr g L s.heap m) (N : News g L s.heap led) (TT : Top p loose mean mg mb base)
    (hf : env.frame = some L) (hkd : env.scope.kind = .function) (hdp : dp + 8 < recursionLimit)
    (q : ∀ x dx h' tk', Fr g L h' m → News g L h' ((x, kInst Z.a dx u) :: (dx, emptyDict) :: led) → Q (.ref x) { s with heap := h', toks := tk' }) :
    wpAny (model PG w) ((ar dp un gd outs).deeper env) (call (.ref Z.a) [u]) Q E s := by
  have S' : Stand (Z.led w.params vn v) s.heap := fun q hq => F.keep _ _ (B.stays _ _ (S q hq))
  refine call_by fun R ok er => c_key (dp := dp + 1) (un := un + 3) (outs := env :: outs) (KCls.kk S') (KCls.kin S') (KCls.code hk S' (by omega)) (pushX B F hf hkd) TT (by omega) ?_
  intro x dx h' tk' kk h1 h2 n1 n2
  obtain ⟨F', N'⟩ := back (pre := []) (post := [(x, kInst Z.a dx u), (dx, emptyDict)]) F N (fun _ h => nomatch h) (fun x hx => ⟨hx, List.not_mem_nil⟩) (fun b o e _ => kk b o e)
    (List.forall_mem_cons.2 ⟨h1, List.forall_mem_cons.2 ⟨h2, fun _ h => nomatch h⟩⟩) (List.forall_mem_cons.2 ⟨.inr n1, List.forall_mem_cons.2 ⟨.inr n2, fun _ h => nomatch h⟩⟩)
  exact ok _ _ (q x dx h' tk' F' N')
theorem k_ltB (S : Stand (Z.led w.params vn (.ref 773)) base) (hk : Z.Ok w.params)
    (hr : r = cmpR ka na kb nb) (hla : la.length < 400000) (hlb : lb.length < 400000) (ha : Reads la ka na) (hb : Reads lb kb nb)
    (B : Below (ar dp un gd outs) base outs g) (F : Fr g L s.heap m) (N : News g L s.heap led) (X : (pre.heap_1 w.params).In base) (TT : Top p loose mean mg mb base)
    (hx : (x, kInst Z.a dx (.str (tx la) ta)) ∈ led) (hdx : (dx, emptyDict) ∈ led) (hy : (y, kInst Z.a dy (.str (tx lb) tb)) ∈ led) (hdy : (dy, emptyDict) ∈ led)
    (hf : env.frame = some L) (hkd : env.scope.kind = .function) (hdp : dp + 28 < recursionLimit) (hu : un + 150 < cLine)
    (q : ∀ n h' tk', r = some n → Fr g L h' m → News g L h' led → Q (.bool (decide (n < 0))) { s with heap := h', toks := tk' })
    (bad : r = none → ∀ h' tk' e, Refused (widest s.heap (env :: outs) []) (env :: outs) s.heap [] e h' → E (.ref e) { s with heap := h', toks := tk' }) :
    wpAny (model PG w) ((ar dp un gd outs).deeper env) (compareOp .Lt (.ref x) (.ref y)) Q E s := by
  have S' : Stand (Z.led w.params vn (.ref 773)) s.heap := fun q hq => F.keep _ _ (B.stays _ _ (S q hq))
  have V := free_of B F N hf (pre := []) fun _ h => nomatch h
  have BX : Below (ar (dp + 1) (un + 3) gd (env :: outs)) base (env :: outs) s.heap := by
    have := pushX B F hf hkd
    exact ⟨rfl, this.stays, this.frames⟩
  have W1 := base_widest BX V
  have W2 := below_widest (as := []) BX
  simp only [List.map_nil] at W1
  have SW : Stand (Z.led w.params vn (.ref 773)) (widest s.heap (env :: outs) []) := fun q hq => W1 _ _ (S q hq)
  refine cmp_ofLt ?_
  have I : InstAt s.heap x (kInst Z.a dx (.str (tx la) ta)) Z.a (some emptyDict) := ⟨(N _ hx).1, rfl, rfl, (N _ hdx).1⟩
  obtain ⟨hh, gg, d, t, os⟩ := s
  refine rich_own (by show un + 3 < cLine; omega) (KCls.kin S') I (N _ hy).1 rfl (k_find S').1 (k_fn S' (by omega)) ?_
  refine wpAny_call ?_
  obtain ⟨_, _, _, _, _, _, _, _, _, _, _, _, e1, e2, e3⟩ := kshape1 w.params
  refine c_kcmp (dp := dp + 1) (un := un + 3) (outs := env :: outs) (s := ⟨hh, gg, d, t, os⟩) (opB := fun n => decide (n < 0)) (KCls.kk SW) (KCls.kin SW) (by omega) (by omega) e1 e2 e3 (fun A E s Q n tk tz h => PySem.P.lt_int h) hr hla hlb ha hb (news_W B F N hf hx) (news_W B F N hf hdx) (news_W B F N hf hy) (news_W B F N hf hdy) (KCls.code hk SW (by omega)) W2 (X.keeps W1) (TT.keeps W1) (by omega) (by omega) ?_ ?_
  · intro n h' tk' e kk
    exact ⟨_, rfl, q n h' tk' e (back0 F N kk).1 (back0 F N kk).2⟩
  · intro e1 h' tk' e r
    exact bad e1 h' tk' e r
end
theorem nameX_C {M : Model} {A : Around} {E : Value → Shared → Prop} {s : Shared} {h₀ : Heap} {L a c : Addr} {m : Str → Option Value} {cn : Str} {cs : Scope} {ccd : Value} {cl : List (Str × Addr)} {x : Str} {pos : Pos} {v : Value} {o : Obj} {Q : Value → Shared → Prop}
    (F : Fr h₀ L s.heap m) (hc : cl.lookup x = some c) (hm : h₀.get? c = some o) (hd : o.data = .cell (some v)) (h : Q v s)
    (hk : cs.kind = .function := by rfl) (hx : (envX cn cs L a ccd cl).kindOf x = some .free := by rfl) (hb : (x == ("__debug__" : Str)) = false := by decide) (hn : (x == ("__classdict__" : Str)) = false := by decide) :
    wpAny M A (eval (.Name x pos) (envX cn cs L a ccd cl)) Q E s := wpAny_Name (wpAny_loadName_free (env := envX cn cs L a ccd cl) hk hx hc ⟨o, F.keep _ _ hm, hd⟩ h hn) hb
noncomputable def StG (g h : Heap) : Prop := ∀ b o, g.get? b = some o → h.get? b = some o
theorem stG_of {g h : Heap} {L : Addr} {m : Str → Option Value} (F : Fr g L h m) : StG g h := F.keep
section
variable {M : Model} {A : Around} {E : Value → Shared → Prop} {s : Shared} {env : Env} {pos : Pos} {first : List Value} {Q : Value → Shared → Prop} {g : Heap}
theorem callWith_G {K : Frag} {f : Value} {e : Expr} {rest : List Expr} (XK : K.In g) (hk : keepIn K f = true) (h : wpAny M A (spliced (backTo pos (starEach (e :: rest) env))) (fun vs s₁ => StG g s₁.heap ∧ wpAny M A (call f (first ++ vs)) Q E s₁) E s)
    (he : starEach (e :: rest) env = (false, eval e env) :: starEach rest env := by rfl) (hplain : (backTo pos (starEach rest env)).any (·.1) = false := by rfl) :
    wpAny M A (callWith pos f first (backTo pos (starEach (e :: rest) env)) []) Q E s :=
  callWith_K (h₀ := g) XK hk (wpAny_mono h (fun _ _ x => ⟨XK.keeps x.1, x.2⟩) fun _ _ x => x) he hplain
theorem k_keepZ {P : Params} {vn v : Value} {Z : KCls} (S : Stand (Z.led P vn v) g) : keepIn (Z.own P vn v) (.ref Z.a) = true := by
  have Y := KCls.kk S
  have h1 : specialIn (Z.own P vn v) (.ref Z.a) "__call__" = some (some (.builtin "type.__call__")) := by
    unfold specialIn typeIn
    dsimp only
    rw [Y.hA]
    kernel_rfl
  unfold keepIn
  dsimp only
  rw [Y.hA]
  dsimp only [clsK, clsO]
  rw [h1]
  kernel_rfl
theorem callWith_Zg {P : Params} {vn v : Value} {Z : KCls} {e : Expr} {rest : List Expr} (S : Stand (Z.led P vn v) g) (h : wpAny M A (spliced (backTo pos (starEach (e :: rest) env))) (fun vs s₁ => StG g s₁.heap ∧ wpAny M A (call (.ref Z.a) (first ++ vs)) Q E s₁) E s)
    (he : starEach (e :: rest) env = (false, eval e env) :: starEach rest env := by rfl) (hplain : (backTo pos (starEach rest env)).any (·.1) = false := by rfl) :
    wpAny M A (callWith pos (.ref Z.a) first (backTo pos (starEach (e :: rest) env)) []) Q E s :=
  callWith_G (KCls.kin S) (k_keepZ S) h he hplain
end
noncomputable def LamShape (params : Arguments) (body : Expr) (scope : Scope) : Prop := ∃ (p1 p2 p3 p4 p5 p6 p7 p8 p9 p10 q1 q2 : Pos),
    body = Expr.IfExp ((((Expr.Name (Str.ofString "key") p1).Call [Expr.Name (Str.ofString "other") p2] [] p3).Compare [.Lt] [(Expr.Name (Str.ofString "key") p4).Call [Expr.Name (Str.ofString "one") p5] [] p6] p7)) (Expr.Name (Str.ofString "other") p8) (Expr.Name (Str.ofString "one") p9) p10 ∧
    scope = { kind := ScopeKind.function, names := [(Str.ofString "one", NameKind.local), (Str.ofString "other", NameKind.local), (Str.ofString "key", NameKind.free)], isGenerator := false, isCoroutine := false } ∧
    params = { posonlyargs := [], args := [{ arg := Str.ofString "one", annotation := none, pos := q1 }, { arg := Str.ofString "other", annotation := none, pos := q2 }], vararg := none, kwonlyargs := [], kw_defaults := [], kwarg := none, defaults := [] }
structure LamB (P : Params) (vn : Value) (Z : KCls) (base : Heap) (f : Addr) : Prop where
  at_ : ∃ (name qual : Str) (params : Arguments) (body : Expr) (scope : Scope) (cell : Addr) (pm ct : Value) (c' : Addr) (oC : Obj), base.get? f = some (kla_obj name qual params body scope [(Str.ofString "key", cell)] pm c' ct) ∧ base.CodeRec (.ref c') qual ∧ base.get? cell = some oC ∧ oC.data = .cell (some (.ref Z.a)) ∧ LamShape params body scope
  st : Stand (Z.led P vn (.ref 773)) base
  ok : Z.Ok P
end
section
theorem fill_La : PySem.Challenge.rw_ij0136_01 = PySem.Challenge.rw_ij0136_01 ∧ pre.heap_1 = pre.heap_1 := by
  k_with_none
  k_with "my rel" => (repeat' (first | (k_unfold; (try dsimp only)) | walk1 | walk_at "my next" | (dsimp only; walk1) | (leave1; try dsimp only) | fail "no step"))
  k_with "my room" => (((try simp only [depth_mark, depth_under_make, depth_under_kw, depth_in1, depth_deeper, depth_caller]); (try dsimp only [ar]); omega))
  k_with "my units" => ((have hcL9 := cLine_is; (try simp only [units_in1, units_deeper, Around.mark_units, units_caller]); (try dsimp only [ar]); omega))
  k_with "my unf" => ((refine' enter ?k1 ?k2 ?k3 ?k4 ?k6 ?k7 ?k8 ?k9 ?kB ?_ ?c2 ?c3 ?c4 ?c5; (case k1 => assumption); (case k2 => assumption); (case k3 => assumption); (case k4 => assumption); (case k6 => k_is); (case k7 => k_is); (case k8 => k_room); (case k9 => first | exact BindsTo.of_eq rfl | exact binds_K (Frag.In.keeps (by assumption) (Below.stays (by assumption))) rfl (by k_is) rfl rfl rfl); (case c5 => decide); (case kB => exact locs rfl); (case c2 => exact rfl); (case c3 => exact rfl); (case c4 => exact rfl); k_whole; intro g' L' h' G' F' N' B' X' T'; (try simp only [List.map_cons, List.map_nil] at G'); (try dsimp only); (try k_fold)))
  k_with "subscriptTail Attribute Name Slice str ref" => (((with_reducible rename Fr _ _ _ _ => F'); (with_reducible rename News _ _ _ _ => N'); (refine slice_strN_ss (hsz := ?hsz) (s := ⟨_, _, _, _, _⟩) F' N' ?_); (case hsz => (rw [sizeLine_eq]; omega)); intro h' t' tk' F' N'; (try k_sweep)))
  k_with "subscriptTail BinOp Subscript Add Constant Slice str ref" => (((with_reducible rename Fr _ _ _ _ => F'); (with_reducible rename News _ _ _ _ => N'); (refine slice_strN_ns (hsz := ?hsz) (s := ⟨_, _, _, _, _⟩) F' N' ?_); (case hsz => exact size_sl (by with_reducible assumption)); intro h' t' tk' F' N'; (try k_sweep)))
  k_with "call builtin:str.find" => (refine find4 ?_)
  k_with "my apart" => (repeat' (first | (refine List.forall_mem_cons.2 ⟨⟨?_, ?_⟩, ?_⟩) | exact List.forall_mem_nil _ | with_reducible assumption | (apply Ne.symm; with_reducible assumption)))
  k_with "binaryOp Add str str" => (((refine add_str (hsz := size_slc (by with_reducible assumption)) ?_); intro _ _))
  k_with "execs cons" => (((try dsimp only); first | (with_reducible refine nx_last ?_) | ((with_reducible refine nx_cons ?_); intro q' nx')))
  k_with "execs nil" => (with_reducible refine wpAny_execs_nil ?_)
  k_with "my next" => (with_reducible first | refine trq_b ?_ | refine ifq_t ?_ | refine ifq_f ?_ | refine ifq ?_ | refine trq ?_ | refine nx_next (by assumption) ?_ | refine nx_ret (by assumption) ?_ | refine nx_brk (by assumption) ?_ | refine nx_cont (by assumption) ?_)
  k_with "eval Constant int" => (((with_reducible refine int_T ?_); intro t' tk'))
  k_with "eval Constant str" => (((with_reducible refine str_T ?_); intro t' tk'))
  k_with "my nth" => (with_reducible first | exact nth_0 | exact nth_1 | exact nth_2 | exact nth_3 | exact nth_4 | exact nth_5 | exact nth_6)
  k_with "my ne" => (first | with_reducible assumption | exact Ne.symm (by with_reducible assumption) | k_ne)
  k_with "my allne" => (first | with_reducible exact all_nil | (refine' all_cons ?a ?b; (case a => walk_at "my ne"); (case b => walk_at "my allne")))
  k_with "my upd" => (first | (refine' upd_head ?a; (case a => walk_at "my allne")) | (refine' upd_tail ?a ?b; (case a => walk_at "my ne"); (case b => walk_at "my upd")))
  k_with "eval Name" => ((k_here; (with_reducible first | show wpAny _ _ (PySem.eval _ (envOf _ _ _ _ _)) _ _ _ | show wpAny _ _ (PySem.eval _ (envX _ _ _ _ _ _)) _ _ _); k_dflt (refine' name_T ?F ?v ?o ?_; (case F => k_asm); (case o => exact rfl); (case v => rfl); k_whole)))
  k_with "eval Attribute Name" => ((k_here; (with_reducible first | show wpAny _ _ (PySem.eval _ (envOf _ _ _ _ _)) _ _ _ | show wpAny _ _ (PySem.eval _ (envX _ _ _ _ _ _)) _ _ _); k_dflt (refine' own_T ?F ?x ?lo ?X ?N ?h1 ?h2 ?ok ?ho ?hl ?hv ?_; (case F => k_asm); (case lo => exact rfl); (case x => exact rfl); (case X => k_asm); (case N => k_asm); (case h1 => walk_at "my nth"); (case h2 => walk_at "my nth"); (case ok => (intro P9; kernel_rfl)); (case ho => first | exact rfl | walk_at "my isD"); (case hl => first | k_get | walk_at "my getl"); (case hv => first | exact rfl | k_handed); k_whole); intro tk'))
  k_with "getAttr ref" => ((k_here; k_dflt (refine' get_T ?F ?X ?N ?h1 ?h2 ?ok ?ho ?hl ?hv ?_; (case F => k_asm); (case X => k_asm); (case N => k_asm); (case h1 => walk_at "my nth"); (case h2 => walk_at "my nth"); (case ok => (intro P9; kernel_rfl)); (case ho => first | exact rfl | walk_at "my isD"); (case hl => first | k_get | walk_at "my getl"); (case hv => first | exact rfl | k_handed); k_whole); intro tk'))
  k_with "storeName" => ((k_here; (with_reducible first | show wpAny _ _ (PySem.storeName (envOf _ _ _ _ _)  _ _) _ _ _ | show wpAny _ _ (PySem.storeName (envX _ _ _ _ _ _)  _ _) _ _ _); k_dflt (refine' store_T ?F ?N ?o ?_; (case F => k_asm); (case N => k_asm); (case o => exact rfl); k_whole); intro h' tk' F' N'; (try k_sweep)))
  k_with "setAttr ref" => ((k_here; k_dflt (refine' set_T ?F ?X ?N ?h1 ?h2 ?ok ?e ?U ?_; (case F => k_asm); (case X => k_asm); (case N => k_asm); (case h1 => walk_at "my nth"); (case h2 => walk_at "my nth"); (case ok => (intro P9; kernel_rfl)); (case e => walk_at "my puts"); (case U => walk_at "my upd"); k_whole); intro h' tk' F' N'; (try k_sweep)))
  k_with "ite" => (first | with_reducible refine ite_tt ?_ | with_reducible refine ite_ff ?_)
  k_with "my ofb" => (with_reducible first | exact Nat.ne_of_beq_eq_false rfl | exact off1 | exact ffo1 | exact off2 | exact ffo2 | exact off3 | exact ffo3 | exact off4 | exact ffo4 | exact off5 | exact ffo5 | exact off6 | exact ffo6)
  k_with "my off" => (with_reducible first | walk_at "my ofb" | (refine strip ?_; first | walk_at "my ofb" | (refine strip ?_; first | walk_at "my ofb" | (refine strip ?_; first | walk_at "my ofb" | (refine strip ?_; first | walk_at "my ofb" | (refine strip ?_; walk_at "my ofb"))))))
  k_with "my omega" => (with_reducible first | (show _ < _; first | exact room (by assumption) rfl | exact room0 (by assumption) | exact room2 (by assumption) rfl | exact room3 (by assumption) rfl | exact room4 (by assumption) rfl | exact room5 (by assumption) rfl | exact lt_ble rfl | exact om_i63' (by assumption) rfl | exact om_i63 (by assumption) rfl | exact Nat.succ_lt_succ (by assumption) | exact Nat.lt_of_succ_lt_succ (by assumption) | exact Int.ofNat_lt.2 (by assumption) | exact Int.ofNat_lt.1 (by assumption)) | (show _ ≤ _; first | exact Nat.le_of_ble_eq_true rfl | exact Nat.le_refl _ | exact Nat.le_succ _ | exact Nat.le_add_right _ _ | exact om_ltle (by assumption) rfl | exact om_le (by assumption) rfl | exact Nat.le_of_lt (by assumption) | exact Int.ofNat_le.2 (by assumption) | exact Int.natCast_nonneg _ | exact Int.ofNat_le.1 (by assumption) | exact om_addl rfl) | (show _ ≠ _; first | walk_at "my off" | exact om_nne (by assumption)) | (show _ = _; first | exact om_nn (by assumption)) | (show False; first | exact no3 (by assumption) | exact no4 (by assumption) | exact no5 (by assumption) | exact no6 (by assumption)) | fail "no")
  k_with "my cmp" => (((case F => k_asm); (case o => exact rfl); (case v => rfl)))
  k_with "isTrue Compare" => (first | (k_here; (with_reducible first | show wpAny _ _ (isTrue _ (envOf _ _ _ _ _) _) _ _ _ | show wpAny _ _ (isTrue _ (envX _ _ _ _ _ _) _) _ _ _); first | ((with_reducible show wpAny _ _ (isTrue (.Compare (.Name _ _) [_] [.Constant (.str _) _ _] _) _ _) _ _ _); k_dflt (refine' cmp_s ?F ?v ?o ?_ ?m; walk_at "my cmp"; (case m => with_unfolding_all rfl); k_whole; intro t' tk')) | ((with_reducible show wpAny _ _ (isTrue (.Compare (.Name _ _) [_] [.Constant (.int _) _ _] _) _ _) _ _ _); k_dflt (refine' cmp_i ?F ?v ?o ?_ ?m; walk_at "my cmp"; (case m => with_unfolding_all rfl); k_whole; intro t' tk')) | ((with_reducible show wpAny _ _ (isTrue (.Compare (.Name _ _) [_] [.Constant .none _ _] _) _ _) _ _ _); k_dflt (refine' cmp_n ?F ?v ?o ?_ ?m; walk_at "my cmp"; (case m => with_unfolding_all rfl); k_whole)) | ((with_reducible show wpAny _ _ (isTrue (.Compare (.Name _ _) [_] [.Name _ _] _) _ _) _ _ _); k_dflt (refine' cmp_nn ?F ?v ?o ?u ?p ?_ ?m; walk_at "my cmp"; (case p => exact rfl); (case u => rfl); (case m => with_unfolding_all rfl); k_whole))) | with_reducible refine cmp_1 ?_)
  k_with "exec If" => (with_reducible refine if_T ?_)
  k_with "my puts" => (first | with_reducible exact lex_state | with_reducible exact lex_token | with_reducible exact lex_line | with_reducible exact sio_pos)
  k_with "ite" => (first | with_reducible refine ite_tt ?_ | with_reducible refine ite_ff ?_)
  k_with "eval Name" => (((with_reducible rename Fr _ _ _ _ => F'); k_dflt (refine nameX_L F' (by rfl) ?_)))
  k_with "eval Name" => (((with_reducible rename Fr _ _ _ _ => F'); (refine' nameX_C F' ?a ?mm ?d ?_ ?b ?cc ?e ?f; (case a => with_unfolding_all rfl); (case mm => with_reducible assumption); (case d => with_reducible assumption); (case b => with_unfolding_all rfl); (case cc => with_unfolding_all rfl); (case e => with_unfolding_all decide); (case f => with_unfolding_all decide))))
  k_with "call ref" => (((with_reducible show wpAny _ _ (call (Value.ref (KCls.a _)) _) _ _ _); (try dsimp only [List.cons_append, List.nil_append]); (with_reducible rename Fr _ _ _ _ => F'); (with_reducible rename News _ _ _ _ => N'); (refine' k_keyB ?S ?K ?B F' N' ?T rfl rfl ?dp ?_; (case B => with_reducible assumption); (case S => with_reducible assumption); (case K => with_reducible assumption); (case T => with_reducible assumption); (case dp => omega)); intro x' dx' h' tk' F' N'))
  k_with "compareOp Lt ref" => (((with_reducible rename Fr _ _ _ _ => F'); (with_reducible rename News _ _ _ _ => N'); (refine' k_ltB ?S ?K ?r ?la ?lb ?ra ?rb ?B F' N' ?X ?T ?m1 ?m2 ?m3 ?m4 rfl rfl ?dp ?un ?_ ?_; (case B => with_reducible assumption); (case S => with_reducible assumption); (case K => with_reducible assumption); (case m1 => k_mem); (case m2 => k_mem); (case m3 => k_mem); (case m4 => k_mem); (case ra => with_reducible assumption); (case rb => with_reducible assumption); (case r => with_reducible assumption); (case la => with_reducible assumption); (case lb => with_reducible assumption); (case X => with_reducible assumption); (case T => with_reducible assumption); (case dp => omega); (case un => omega)); all_goals (first | (intro n' h' tk' e1' F' N'; have chk9' : Fr _ _ _ _ := F'; clear chk9') | intro e1' h' tk' e' X9')))
  k_with "eval Call" => (((with_reducible show wpAny _ _ (eval (Expr.Call (Expr.Name _ _) _ [] _) (envX _ _ _ _ _ _)) _ _ _); refine Call_ ?_))
  k_with "callWith ref" => (((with_reducible show wpAny _ _ (callWith _ (Value.ref (KCls.a _)) _ _ _) _ _ _); k_dflt (refine' callWith_Zg ?S ?_; (case S => with_reducible assumption))))
  k_with "And" => (((with_reducible show StG _ _ ∧ _); (with_reducible rename Fr _ _ _ _ => F'); refine ⟨stG_of F', ?_⟩; try dsimp only [List.nil_append, List.cons_append]))
  k_fill
  exact ⟨rfl, rfl⟩
open PySem.W.X PySem.Builtin
set_option autoImplicit false
theorem c_lam {base : Heap} {s : Shared} {R : Result → Shared → Prop} {vn : Value} {Z : KCls} {f : Addr} {la lb ka kb : List Nat} {na nb : Bool} {ta tb : Tok} {r : Option Int}
    (Y : LamB w.params vn Z base f) (hr : r = cmpR kb nb ka na) (hla : la.length < 400000) (hlb : lb.length < 400000) (ha : Reads la ka na) (hb : Reads lb kb nb)
    (B : Below (ar dp un gd outs) base outs s.heap) (X : (pre.heap_1 w.params).In base) (TT : Top p loose mean mg mb base) (hdp : dp + 35 < recursionLimit) (hu : un + 170 < cLine)
    (ret : ∀ n h' tk', r = some n → Kept [] s.heap h' → R (.ok (.ret (if n < 0 then .str (tx lb) tb else .str (tx la) ta))) { s with heap := h', toks := tk' })
    (bad : r = none → ∀ h' tk' e, Refused base outs s.heap [] e h' → R (.error (.ref e)) { s with heap := h', toks := tk' }) :
    codeAny (model PG w) (ar dp un gd outs) (.call (.ref f) ⟨[.str (tx la) ta, .str (tx lb) tb], []⟩) R s := by
  obtain ⟨name, qual, params, body, scope, cell, pm, ct, c', oC, hf, hcd, hcell, hoC, p1, p2, p3, p4, p5, p6, p7, p8, p9, p10, q1, q2, rfl, rfl, rfl⟩ := Y.at_
  have YS := Y.st
  have YK := Y.ok
  refine enterXE B TT (B.stays _ _ hf) (hcd.keeps B.stays) (by omega) (binds := [(Str.ofString "one", .str (tx la) ta), (Str.ofString "other", .str (tx lb) tb)]) (BindsTo.of_eq (by kernel_rfl)) (locs rfl) ?body rfl rfl rfl (by decide)
  case body =>
  intro g L h₁ KK0 F' B' st
  have N' : News g L h₁ [] := fun _ q => nomatch q
  have X' := X.keeps st
  have T' := TT.keeps st
  have hcell' := st _ _ hcell
  have YS' : Stand (Z.led w.params vn (.ref 773)) g := fun q hq => st _ _ (YS q hq)
  ktr_rel
  all_goals (repeat' (first | k_unfold | dsimp only))
  all_goals (with_reducible rename Fr _ _ _ _ => F'; with_reducible rename News _ _ _ _ => N')
  · have n' := trivial; have h' := trivial; have tk' := trivial; have e1' := trivial
    rename_i n _ _ e1 hc
    have := fun tk => ret n _ tk e1 (kept_of KK0 F')
    rw [if_pos (hc)] at this
    exact this _
  · have n' := trivial; have h' := trivial; have tk' := trivial; have e1' := trivial
    rename_i n _ _ e1 hc
    have := fun tk => ret n _ tk e1 (kept_of KK0 F')
    rw [if_neg (hc)] at this
    exact this _
  · have e1' := trivial; have h' := trivial; have tk' := trivial; have e' := trivial; have X9' := trivial
    rename_i e1 _ _ _ X9
    obtain ⟨h₂, F₂, R₂, U₂⟩ := refused_back (pre := []) (rest := []) B' F' (fun _ q => nomatch q) rfl (fun _ _ => List.not_mem_nil) X9
    refine leave_onX B' F₂ R₂ U₂ fun h₂ R₃ U₃ => ?_
    exact bad e1 _ _ _ (refused_of KK0 R₃ U₃)
end
section
open PySem.W.X PySem.Builtin
set_option autoImplicit false
structure ItO (o : Obj) (l : Addr) (i : Nat) : Prop where
  c : o.cls = .type "list_iterator"
  d : o.data = .fields #[.ref l, .int (i : Int) 0]
section
variable {w : World} {A : Around} {E : Value → Shared → Prop} {s : Shared} {g : Heap} {L it l : Addr} {m : Str → Option Value} {news : List (Addr × Obj)} {items : Array Value} {o : Obj} {i : Nat} {Q : Value → Shared → Prop}
theorem iter_list (F : Fr g L s.heap m) (N : News g L s.heap news) (hl : g.IsList l items)
    (h : ∀ I o h', ItO o l 0 → Fr g L h' m → News g L h' ((I, o) :: news) → (∀ p ∈ news, p.1 < I) → Q (.ref I) { s with heap := h' }) :
    wpAny (model PG w) A (call (.builtin "iter") [.ref l]) Q E s := by
  refine call_function_entry (by decide +kernel) (by decide +kernel) kdk_entry_iter (kdk_args_iter _) ?_
  unfold Builtin.«iter»
  refine wpAny_bind (m := someArgs "iter" 1 2 _) (wpAny_of_eq (a := [Value.ref l]) (by first | rfl | kernel_rfl!) ?_)
  show wpAny _ _ (pyIter (.ref l) >>= _) _ _ _
  refine wpAny_bind (wpAny_pyIter_list (hl.at fun o e => F.keep _ o e) ?_)
  exact wpAny_pure ⟨_, rfl, h _ _ _ ⟨rfl, rfl⟩ (F.push _) (News.push F N _ rfl) (fun q hq => Heap.lt_size (N q hq).1)⟩
theorem next_list {x : Value} (F : Fr g L s.heap m) (N : News g L s.heap ((it, o) :: news)) (hl : g.IsList l items) (ho : ItO o l i) (hx : items[i]? = some x) (hne : ∀ p ∈ news, p.1 ≠ it)
    (h : ∀ o' h', ItO o' l (i + 1) → Fr g L h' m → News g L h' ((it, o') :: news) → Q x { s with heap := h' }) :
    wpAny (model PG w) A (call (.builtin "next") [.ref it]) Q E s := by
  have hm := N (it, o) (.head _)
  have hit : s.heap.IsListIter it l i := ⟨o, hm.1, ho.c, ho.d⟩
  obtain ⟨ol, hol, _, nl, hdl⟩ := hl.at fun o e => F.keep _ o e
  refine call_function_entry (by decide +kernel) (by decide +kernel) kdk_entry_next (kdk_args_next _) ?_
  unfold Builtin.«next»
  refine wpAny_bind (m := someArgs "next" 1 2 _) (wpAny_of_eq (a := [Value.ref it]) (by first | rfl | kernel_rfl!) ?_)
  dsimp only
  refine wpAny_bind (wpAny_specialOf (name := Str.ofString "__next__") hit.typeIs slot_listiter_next.lookup ?_)
  refine wpAny_ite_split (fun hab => absurd hab (by decide)) (fun _ => ?_)
  refine wpAny_bind (wpAny_callSpecial?_slot (name := Str.ofString "__next__") hit.typeIs slot_listiter_next
    (wpAny_call_entry slot_listiter_next hit.typeIs entry_listiter_next ?_ (args_listiter_next _)))
  show wpAny _ _ (field (.ref it) 0 >>= _) _ _ s
  refine wpAny_bind (wpAny_field hm.1 ho.d (x := .ref l) rfl ?_)
  show wpAny _ _ (if (Value.ref l == Value.none) = true then _ else _) _ _ s
  rw [if_neg (show ¬ ((Value.ref l == Value.none) = true) from Bool.false_ne_true)]
  show wpAny _ _ (field (.ref it) 1 >>= _) _ _ s
  refine wpAny_bind (wpAny_field hm.1 ho.d (x := .int i 0) rfl ?_)
  show wpAny _ _ (seqItems? (.ref l) >>= _) _ _ s
  refine wpAny_bind (wpAny_seqItems hol hdl ?_)
  simp only [Int.toNat_natCast, hx]
  refine wpAny_bind (wpAny_setField hm.1 ho.d (by simp) (wpAny_pure ⟨x, rfl, wpAny_pure ⟨_, rfl, ?_⟩⟩))
  have hs := Heap.SameBut.update s.heap it (Obj.mapFields (·.setIfInBounds 1 (rawInt ((i : Int) + 1))))
  have hg := Heap.get?_update_self (Obj.mapFields (·.setIfInBounds 1 (rawInt ((i : Int) + 1)))) hm.1 (Obj.isFreed_of_fields (Obj.data_mapFields ho.d _))
  refine h (Obj.mapFields (·.setIfInBounds 1 (rawInt ((i : Int) + 1))) o) _ ⟨(Obj.cls_mapFields ..).trans ho.c, by rw [Obj.data_mapFields ho.d]; simp [rawInt]⟩ (F.change hs hm.2.1 hm.2.2) (fun q hq => ?_)
  rcases List.mem_cons.mp hq with rfl | hq
  · exact ⟨hg, hm.2⟩
  · exact ⟨hs.extBut _ _ (hne q hq) (N q (.tail _ hq)).1, (N q (.tail _ hq)).2⟩
theorem walks_shift {I : Addr} {fp wr : List Addr} {n : Nat} {P : Nat → Value → Prop} {St : Nat → Heap → Prop} (k : Nat) (W : Walks PG w A I fp wr (n + k) P St) : Walks PG w A I fp wr n (fun i => P (i + k)) (fun i => St (i + k)) where
  sub := W.sub
  frame := fun i h h' st hk => W.frame (i + k) h h' st hk
  item := fun i s Q E hi st hQ => W.item (i + k) s Q E (by omega) st fun v h' tk hp st' hk => hQ v h' tk hp (by rw [Nat.add_right_comm]; exact st') hk
  done := fun s Q E st hQ => W.done s Q E st hQ
  self := fun i s Q E st hQ => W.self (i + k) s Q E st hQ
end
end
section
open PySem.W.X PySem.Builtin
set_option autoImplicit false
theorem LamB.keeps {P : Params} {vn : Value} {Z : KCls} {base h : Heap} {f : Addr} (Y : LamB P vn Z base f) (k : base.StaysIn h) : LamB P vn Z h f := by
  obtain ⟨⟨name, qual, params, body, scope, cell, pm, ct, c', oC, hf, hcd, hcell, hoC, hs⟩, st, ok⟩ := Y
  exact ⟨⟨name, qual, params, body, scope, cell, pm, ct, c', oC, k _ _ hf, hcd.keeps k, k _ _ hcell, hoC, hs⟩, fun q hq => k _ _ (st q hq), ok⟩
section
variable {M : Model} {A : Around} {E : Value → Shared → Prop} {s : Shared} {env : Env} {pos : Pos} {first : List Value} {Q : Value → Shared → Prop} {g base : Heap} {P : Params} {vn : Value} {Z : KCls} {f : Addr}
theorem callWith_lam {dp un : Nat} {gd : Option (List Code)} {outs : List Env} {e : Expr} {rest : List Expr} (Y : LamB P vn Z base f) (B : Below (ar dp un gd outs) base outs g) (h : wpAny M A (spliced (backTo pos (starEach (e :: rest) env))) (fun vs s₁ => StG g s₁.heap ∧ wpAny M A (call (.ref f) (first ++ vs)) Q E s₁) E s)
    (he : starEach (e :: rest) env = (false, eval e env) :: starEach rest env := by rfl) (hplain : (backTo pos (starEach rest env)).any (·.1) = false := by rfl) :
    wpAny M A (callWith pos (.ref f) first (backTo pos (starEach (e :: rest) env)) []) Q E s := by
  obtain ⟨name, qual, params, body, scope, cell, pm, ct, c', oC, hf, _⟩ := Y.at_
  refine callWith_G (K := [(f, kla_obj name qual params body scope [(Str.ofString "key", cell)] pm c' ct)]) (in_of fun q hq => ?_) ?_ h he hplain
  · rw [List.mem_singleton.mp hq]
    exact B.stays _ _ hf
  · unfold keepIn
    dsimp only
    rw [List.lookup_cons, beq_self_eq_true]
end
theorem k_lam {base g : Heap} {L : Addr} {m : Str → Option Value} {env : Env} {s : Shared} {Q : Value → Shared → Prop} {E : Value → Shared → Prop} {rest : List (Addr × Obj)}
    {vn : Value} {Z : KCls} {f : Addr} {la lb ka kb : List Nat} {na nb : Bool} {ta tb : Tok} {r : Option Int}
    (Y : LamB w.params vn Z base f) (hr : r = cmpR kb nb ka na) (hla : la.length < 400000) (hlb : lb.length < 400000) (ha : Reads la ka na) (hb : Reads lb kb nb)
    (B : Below (ar dp un gd outs) base outs g) (F : Fr g L s.heap m) (N : News g L s.heap rest) (X : (pre.heap_1 w.params).In base) (TT : Top p loose mean mg mb base)
    (hf : env.frame = some L) (hk : env.scope.kind = .function) (hdp : dp + 37 < recursionLimit) (hu : un + 180 < cLine)
    (q : ∀ n h' tk', r = some n → Fr g L h' m → News g L h' rest → Q (if n < 0 then .str (tx lb) tb else .str (tx la) ta) { s with heap := h', toks := tk' })
    (bad : r = none → ∀ h' tk' e h₂, Fr g L h₂ m → RaisedN base (env :: outs) e (.type "ValueError") rest h' → h₂.UpToSlots h' → E (.ref e) { s with heap := h', toks := tk' }) :
    wpAny (model PG w) ((ar dp un gd outs).deeper env) (call (.ref f) [.str (tx la) ta, .str (tx lb) tb]) Q E s := by
  have V := free_of B F N hf (pre := []) fun _ h => nomatch h
  have BX := pushX B F hf hk
  have W1 := base_widest BX V
  have W2 := below_widest (as := []) BX
  simp only [List.map_nil] at W1
  refine call_by fun R ok er => c_lam (dp := dp + 1) (un := un + 3) (outs := env :: outs) (Y.keeps W1) hr hla hlb ha hb W2 (X.keeps W1) (TT.keeps W1) (by omega) (by omega) ?_ ?_
  · intro n h' tk' e kk
    exact ok _ _ (q n h' tk' e (back0 F N kk).1 (back0 F N kk).2)
  · intro e1 h' tk' e r
    have := refused_back (pre := []) (rest := rest) (e := e) (h' := h') B F N hf (fun _ _ => List.not_mem_nil)
    obtain ⟨h₂, F₂, R₂, U₂⟩ := this r
    exact er _ _ (bad e1 h' tk' e h₂ F₂ R₂ U₂)
noncomputable def redV (c : Nat → Nat → Option Int) : Nat → Option Nat
  | 0 => some 0
  | n + 1 => (redV c n).bind fun b => (c (n + 1) b).map fun r => if r < 0 then n + 1 else b
theorem redV_none {c : Nat → Nat → Option Int} {n : Nat} (h : redV c n = none) : ∀ k, redV c (n + k) = none
  | 0 => h
  | k + 1 => by
    show (redV c (n + k)).bind _ = none
    rw [redV_none h k]; rfl
theorem redV_le {c : Nat → Nat → Option Int} : ∀ {n b : Nat}, redV c n = some b → b ≤ n
  | 0, b, h => by cases h; exact Nat.le_refl _
  | n + 1, b, h => by
    have h : (redV c n).bind (fun b => (c (n + 1) b).map fun r => if r < 0 then n + 1 else b) = some b := h
    cases e : redV c n with
    | none => rw [e] at h; cases h
    | some b' =>
      rw [e] at h
      have h : (c (n + 1) b').map (fun r => if r < 0 then n + 1 else b') = some b := h
      cases e2 : c (n + 1) b' with
      | none => rw [e2] at h; cases h
      | some r =>
        rw [e2] at h
        have h : (if r < 0 then n + 1 else b') = b := Option.some.inj h
        have := redV_le e
        split at h
        · exact Nat.le_of_eq h.symm
        · exact h ▸ Nat.le_succ_of_le this
theorem redV_step {c : Nat → Nat → Option Int} {i b : Nat} {n : Int} (h : redV c i = some b) (e : c (i + 1) b = some n) : redV c (i + 1) = some (if n < 0 then i + 1 else b) := by
  show (redV c i).bind (fun b => (c (i + 1) b).map fun r => if r < 0 then i + 1 else b) = _
  rw [h]
  show (c (i + 1) b).map _ = _
  rw [e]; rfl
theorem redV_bad {c : Nat → Nat → Option Int} {i b : Nat} (h : redV c i = some b) (e : c (i + 1) b = none) : redV c (i + 1) = none := by
  show (redV c i).bind (fun b => (c (i + 1) b).map fun r => if r < 0 then i + 1 else b) = _
  rw [h]
  show (c (i + 1) b).map _ = _
  rw [e]; rfl
noncomputable abbrev tx4 (l : Nat → List Nat) (t : Nat → Tok) : Array Value := #[.str (tx (l 0)) (t 0), .str (tx (l 1)) (t 1), .str (tx (l 2)) (t 2), .str (tx (l 3)) (t 3)]
theorem tx4_at {l : Nat → List Nat} {t : Nat → Tok} {i : Nat} {v : Value} (hi : i < 4) (h : (tx4 l t)[i]? = some v) : v = .str (tx (l i)) (t i) := by
  rcases i with _ | _ | _ | _ | i
  · cases h; rfl
  · cases h; rfl
  · cases h; rfl
  · cases h; rfl
  · exact (no4 hi).elim
theorem m_shape2 {m : Str → Option Value} {x1 x2 : Str} {v1 v2 : Value} (e1 : m x1 = some v1) (e2 : m x2 = some v2) : m = fun y => if y = x1 then some v1 else if y = x2 then some v2 else m y := by
  funext y
  by_cases h1 : y = x1
  · rw [if_pos h1, h1, e1]
  · rw [if_neg h1]
    by_cases h2 : y = x2
    · rw [if_pos h2, h2, e2]
    · rw [if_neg h2]
noncomputable def ReJ (c : Nat → Nat → Option Int) (l : Nat → List Nat) (t : Nat → Tok) (f : Addr) (i : Nat) (m : Str → Option Value) (news : List (Addr × Obj)) : Prop :=
  ∃ (b : Nat) (u : Str → Option Value), redV c i = some b ∧ m = (fun y => if y = Str.ofString "value" then some (.str (tx (l b)) (t b)) else if y = Str.ofString "function" then some (.ref f) else u y) ∧ news = []
theorem re_next {g h' : Heap} {L I : Addr} {s₁ : Shared} {tk : Nat} {m : Str → Option Value} {own : List (Addr × Obj)} {c : Nat → Nat → Option Int} {l : Nat → List Nat} {t : Nat → Tok} {f : Addr} {i b : Nat} {n : Int} {Qr : Value → Shared → Prop} {Qb : Shared → Prop}
    (F : Fr g L h' m) (N : News g L h' own) (hb : redV c i = some b) (e : c (i + 1) b = some n) (h1 : m (Str.ofString "value") = some (if n < 0 then .str (tx (l (i + 1))) (t (i + 1)) else .str (tx (l b)) (t b))) (h2 : m (Str.ofString "function") = some (.ref f)) :
    LoopStepV g L [I] own (ReJ c l t f (i + 1)) s₁ Qr Qb .next { s₁ with heap := h', toks := tk } := by
  refine LoopStepV.next ⟨rfl, h', tk, m, [], rfl, F, by rw [List.append_nil]; exact N, (fun _ h => nomatch h), _, m, redV_step hb e, ?_, rfl⟩
  refine m_shape2 ?_ h2
  rw [h1]
  split <;> rfl
theorem tx4_0 {l : Nat → List Nat} {t : Nat → Tok} : (tx4 l t)[0]? = some (.str (tx (l 0)) (t 0)) := rfl
theorem re_loop {w : World} {A : Around} {E : Value → Shared → Prop} {Q : Flow → Shared → Prop} {s₂ : Shared} {g : Heap} {env : Env} {x : Str} {body : List Stmt} {m : Str → Option Value} {I sq f : Addr} {o : Obj} {c : Nat → Nat → Option Int} {l : Nat → List Nat} {t : Nat → Tok}
    (F : Fr g env.locals s₂.heap m) (N : News g env.locals s₂.heap [(I, o)]) (ho : ItO o sq 1) (hs : g.IsList sq (tx4 l t)) (hv : m (Str.ofString "value") = some (.str (tx (l 0)) (t 0))) (hf : m (Str.ofString "function") = some (.ref f)) (hh : A.handled = none)
    (turn : ∀ (i b : Nat) (u : Str → Option Value) (h₁ : Heap) (tk₁ : Nat) (own : List (Addr × Obj)), i < 3 → b < 4 → i + 1 < 4 → redV c i = some b → Fr g env.locals h₁ (fun y => if y = x then some (.str (tx (l (i + 1))) (t (i + 1))) else if y = Str.ofString "value" then some (.str (tx (l b)) (t b)) else if y = Str.ofString "function" then some (.ref f) else u y) → News g env.locals h₁ own →
      wpAny (model PG w) A (execs body env) (LoopStepV g env.locals [I] own (ReJ c l t f (i + 1)) { s₂ with heap := h₁, toks := tk₁ } (fun v s' => Q (.ret v) s') fun s' => Q .next s') E { s₂ with heap := h₁, toks := tk₁ })
    (fin : ∀ (b : Nat) (u : Str → Option Value) (h' : Heap) (tk : Nat), redV c 3 = some b → Fr g env.locals h' (fun y => if y = Str.ofString "value" then some (.str (tx (l b)) (t b)) else if y = Str.ofString "function" then some (.ref f) else u y) → News g env.locals h' [] → Q .next { s₂ with heap := h', toks := tk }) :
    LoopAtV PG w A g env x body Q E (.ref I) s₂ := by
  have hm := N _ (.head _)
  have hne : sq ≠ I := fun e => by
    obtain ⟨o, ho, _⟩ := hs
    rw [e, hm.2.2] at ho
    cases ho
  have W : Walks PG w A I [I, sq] [I] 3 (fun i v => (tx4 l t)[i + 1]? = some v) (fun i h => h.IsListIter I sq (i + 1) ∧ h.IsList sq (tx4 l t)) :=
    walks_shift (n := 3) (P := fun i v => (tx4 l t)[i]? = some v) (St := fun i h => h.IsListIter I sq i ∧ h.IsList sq (tx4 l t)) 1 (Walks.list (prog := PG) (w := w) hh I sq hne (tx4 l t))
  have S0 : s₂.heap.IsListIter I sq (0 + 1) ∧ s₂.heap.IsList sq (tx4 l t) := ⟨⟨o, hm.1, ho.c, ho.d⟩, hs.at fun o e => F.keep _ o e⟩
  have h1 : env.locals ∉ [I, sq] := by
    intro hmem
    rcases List.mem_cons.mp hmem with e | hmem
    · exact hm.2.1 e.symm
    · have e := List.mem_singleton.mp hmem
      obtain ⟨o, ho, _⟩ := hs
      have := Heap.lt_size ho
      exact absurd (Nat.lt_of_lt_of_le this F.above) (e ▸ Nat.lt_irrefl _)
  have h2 : ∀ b ∈ [I], g.get? b = none := by
    intro b hb
    rw [List.mem_singleton.mp hb]
    exact hm.2.2
  have hJ : ReJ c l t f 0 m [] := ⟨0, m, rfl, m_shape2 hv hf, rfl⟩
  refine ⟨I, [I, sq], [I], 3, _, _, m, [], ReJ c l t f, rfl, W, h1, h2, (fun _ h => nomatch h), S0, F, (fun _ h => nomatch h), hJ, ?_, ?_⟩
  · rintro i v m₁ news₁ s₁ own ⟨h₁, tk₁, rfl⟩ hi hP ⟨b, u, hb, rfl, rfl⟩ hoff hown hget hall hst F₁ N₁
    have hv' := tx4_at (i := i + 1) (Nat.succ_lt_succ hi) hP
    subst hv'
    rw [List.append_nil] at N₁
    have := redV_le hb
    exact turn i b u h₁ tk₁ own hi (Nat.lt_of_le_of_lt this (Nat.lt_succ_of_lt hi)) (Nat.succ_lt_succ hi) hb F₁ N₁
  · rintro h' tk m' news' F' N' _ ⟨b, u, hb, rfl, rfl⟩
    exact fin b u h' tk hb F' N'
end
section
theorem fill_Re : PySem.Challenge.rw_ij0136_01 = PySem.Challenge.rw_ij0136_01 ∧ pre.heap_1 = pre.heap_1 := by
  k_with_none
  k_with "my rel" => (repeat' (first | (k_unfold; (try dsimp only)) | walk1 | walk_at "my next" | (dsimp only; walk1) | (leave1; try dsimp only) | fail "no step"))
  k_with "my room" => (((try simp only [depth_mark, depth_under_make, depth_under_kw, depth_in1, depth_deeper, depth_caller]); (try dsimp only [ar]); omega))
  k_with "my units" => ((have hcL9 := cLine_is; (try simp only [units_in1, units_deeper, Around.mark_units, units_caller]); (try dsimp only [ar]); omega))
  k_with "my unf" => ((refine' enter ?k1 ?k2 ?k3 ?k4 ?k6 ?k7 ?k8 ?k9 ?kB ?_ ?c2 ?c3 ?c4 ?c5; (case k1 => assumption); (case k2 => assumption); (case k3 => assumption); (case k4 => assumption); (case k6 => k_is); (case k7 => k_is); (case k8 => k_room); (case k9 => first | exact BindsTo.of_eq rfl | exact binds_K (Frag.In.keeps (by assumption) (Below.stays (by assumption))) rfl (by k_is) rfl rfl rfl); (case c5 => decide); (case kB => exact locs rfl); (case c2 => exact rfl); (case c3 => exact rfl); (case c4 => exact rfl); k_whole; intro g' L' h' G' F' N' B' X' T'; (try simp only [List.map_cons, List.map_nil] at G'); (try dsimp only); (try k_fold)))
  k_with "subscriptTail Attribute Name Slice str ref" => (((with_reducible rename Fr _ _ _ _ => F'); (with_reducible rename News _ _ _ _ => N'); (refine slice_strN_ss (hsz := ?hsz) (s := ⟨_, _, _, _, _⟩) F' N' ?_); (case hsz => (rw [sizeLine_eq]; omega)); intro h' t' tk' F' N'; (try k_sweep)))
  k_with "subscriptTail BinOp Subscript Add Constant Slice str ref" => (((with_reducible rename Fr _ _ _ _ => F'); (with_reducible rename News _ _ _ _ => N'); (refine slice_strN_ns (hsz := ?hsz) (s := ⟨_, _, _, _, _⟩) F' N' ?_); (case hsz => exact size_sl (by with_reducible assumption)); intro h' t' tk' F' N'; (try k_sweep)))
  k_with "call builtin:str.find" => (refine find4 ?_)
  k_with "my apart" => (repeat' (first | (refine List.forall_mem_cons.2 ⟨⟨?_, ?_⟩, ?_⟩) | exact List.forall_mem_nil _ | with_reducible assumption | (apply Ne.symm; with_reducible assumption)))
  k_with "binaryOp Add str str" => (((refine add_str (hsz := size_slc (by with_reducible assumption)) ?_); intro _ _))
  k_with "execs cons" => (((try dsimp only); first | (with_reducible refine nx_last ?_) | ((with_reducible refine nx_cons ?_); intro q' nx')))
  k_with "execs nil" => (with_reducible refine wpAny_execs_nil ?_)
  k_with "my next" => (with_reducible first | refine trq_b ?_ | refine ifq_t ?_ | refine ifq_f ?_ | refine ifq ?_ | refine trq ?_ | refine nx_next (by assumption) ?_ | refine nx_ret (by assumption) ?_ | refine nx_brk (by assumption) ?_ | refine nx_cont (by assumption) ?_)
  k_with "eval Constant int" => (((with_reducible refine int_T ?_); intro t' tk'))
  k_with "eval Constant str" => (((with_reducible refine str_T ?_); intro t' tk'))
  k_with "my nth" => (with_reducible first | exact nth_0 | exact nth_1 | exact nth_2 | exact nth_3 | exact nth_4 | exact nth_5 | exact nth_6)
  k_with "my ne" => (first | with_reducible assumption | exact Ne.symm (by with_reducible assumption) | k_ne)
  k_with "my allne" => (first | with_reducible exact all_nil | (refine' all_cons ?a ?b; (case a => walk_at "my ne"); (case b => walk_at "my allne")))
  k_with "my upd" => (first | (refine' upd_head ?a; (case a => walk_at "my allne")) | (refine' upd_tail ?a ?b; (case a => walk_at "my ne"); (case b => walk_at "my upd")))
  k_with "eval Name" => ((k_here; (with_reducible first | show wpAny _ _ (PySem.eval _ (envOf _ _ _ _ _)) _ _ _ | show wpAny _ _ (PySem.eval _ (envX _ _ _ _ _ _)) _ _ _); k_dflt (refine' name_T ?F ?v ?o ?_; (case F => k_asm); (case o => exact rfl); (case v => rfl); k_whole)))
  k_with "eval Attribute Name" => ((k_here; (with_reducible first | show wpAny _ _ (PySem.eval _ (envOf _ _ _ _ _)) _ _ _ | show wpAny _ _ (PySem.eval _ (envX _ _ _ _ _ _)) _ _ _); k_dflt (refine' own_T ?F ?x ?lo ?X ?N ?h1 ?h2 ?ok ?ho ?hl ?hv ?_; (case F => k_asm); (case lo => exact rfl); (case x => exact rfl); (case X => k_asm); (case N => k_asm); (case h1 => walk_at "my nth"); (case h2 => walk_at "my nth"); (case ok => (intro P9; kernel_rfl)); (case ho => first | exact rfl | walk_at "my isD"); (case hl => first | k_get | walk_at "my getl"); (case hv => first | exact rfl | k_handed); k_whole); intro tk'))
  k_with "getAttr ref" => ((k_here; k_dflt (refine' get_T ?F ?X ?N ?h1 ?h2 ?ok ?ho ?hl ?hv ?_; (case F => k_asm); (case X => k_asm); (case N => k_asm); (case h1 => walk_at "my nth"); (case h2 => walk_at "my nth"); (case ok => (intro P9; kernel_rfl)); (case ho => first | exact rfl | walk_at "my isD"); (case hl => first | k_get | walk_at "my getl"); (case hv => first | exact rfl | k_handed); k_whole); intro tk'))
  k_with "storeName" => ((k_here; (with_reducible first | show wpAny _ _ (PySem.storeName (envOf _ _ _ _ _)  _ _) _ _ _ | show wpAny _ _ (PySem.storeName (envX _ _ _ _ _ _)  _ _) _ _ _); k_dflt (refine' store_T ?F ?N ?o ?_; (case F => k_asm); (case N => k_asm); (case o => exact rfl); k_whole); intro h' tk' F' N'; (try k_sweep)))
  k_with "setAttr ref" => ((k_here; k_dflt (refine' set_T ?F ?X ?N ?h1 ?h2 ?ok ?e ?U ?_; (case F => k_asm); (case X => k_asm); (case N => k_asm); (case h1 => walk_at "my nth"); (case h2 => walk_at "my nth"); (case ok => (intro P9; kernel_rfl)); (case e => walk_at "my puts"); (case U => walk_at "my upd"); k_whole); intro h' tk' F' N'; (try k_sweep)))
  k_with "ite" => (first | with_reducible refine ite_tt ?_ | with_reducible refine ite_ff ?_)
  k_with "my ofb" => (with_reducible first | exact Nat.ne_of_beq_eq_false rfl | exact off1 | exact ffo1 | exact off2 | exact ffo2 | exact off3 | exact ffo3 | exact off4 | exact ffo4 | exact off5 | exact ffo5 | exact off6 | exact ffo6)
  k_with "my off" => (with_reducible first | walk_at "my ofb" | (refine strip ?_; first | walk_at "my ofb" | (refine strip ?_; first | walk_at "my ofb" | (refine strip ?_; first | walk_at "my ofb" | (refine strip ?_; first | walk_at "my ofb" | (refine strip ?_; walk_at "my ofb"))))))
  k_with "my omega" => (with_reducible first | (show _ < _; first | exact room (by assumption) rfl | exact room0 (by assumption) | exact room2 (by assumption) rfl | exact room3 (by assumption) rfl | exact room4 (by assumption) rfl | exact room5 (by assumption) rfl | exact lt_ble rfl | exact om_i63' (by assumption) rfl | exact om_i63 (by assumption) rfl | exact Nat.succ_lt_succ (by assumption) | exact Nat.lt_of_succ_lt_succ (by assumption) | exact Int.ofNat_lt.2 (by assumption) | exact Int.ofNat_lt.1 (by assumption)) | (show _ ≤ _; first | exact Nat.le_of_ble_eq_true rfl | exact Nat.le_refl _ | exact Nat.le_succ _ | exact Nat.le_add_right _ _ | exact om_ltle (by assumption) rfl | exact om_le (by assumption) rfl | exact Nat.le_of_lt (by assumption) | exact Int.ofNat_le.2 (by assumption) | exact Int.natCast_nonneg _ | exact Int.ofNat_le.1 (by assumption) | exact om_addl rfl) | (show _ ≠ _; first | walk_at "my off" | exact om_nne (by assumption)) | (show _ = _; first | exact om_nn (by assumption)) | (show False; first | exact no3 (by assumption) | exact no4 (by assumption) | exact no5 (by assumption) | exact no6 (by assumption)) | fail "no")
  k_with "my cmp" => (((case F => k_asm); (case o => exact rfl); (case v => rfl)))
  k_with "isTrue Compare" => (first | (k_here; (with_reducible first | show wpAny _ _ (isTrue _ (envOf _ _ _ _ _) _) _ _ _ | show wpAny _ _ (isTrue _ (envX _ _ _ _ _ _) _) _ _ _); first | ((with_reducible show wpAny _ _ (isTrue (.Compare (.Name _ _) [_] [.Constant (.str _) _ _] _) _ _) _ _ _); k_dflt (refine' cmp_s ?F ?v ?o ?_ ?m; walk_at "my cmp"; (case m => with_unfolding_all rfl); k_whole; intro t' tk')) | ((with_reducible show wpAny _ _ (isTrue (.Compare (.Name _ _) [_] [.Constant (.int _) _ _] _) _ _) _ _ _); k_dflt (refine' cmp_i ?F ?v ?o ?_ ?m; walk_at "my cmp"; (case m => with_unfolding_all rfl); k_whole; intro t' tk')) | ((with_reducible show wpAny _ _ (isTrue (.Compare (.Name _ _) [_] [.Constant .none _ _] _) _ _) _ _ _); k_dflt (refine' cmp_n ?F ?v ?o ?_ ?m; walk_at "my cmp"; (case m => with_unfolding_all rfl); k_whole)) | ((with_reducible show wpAny _ _ (isTrue (.Compare (.Name _ _) [_] [.Name _ _] _) _ _) _ _ _); k_dflt (refine' cmp_nn ?F ?v ?o ?u ?p ?_ ?m; walk_at "my cmp"; (case p => exact rfl); (case u => rfl); (case m => with_unfolding_all rfl); k_whole))) | with_reducible refine cmp_1 ?_)
  k_with "exec If" => (with_reducible refine if_T ?_)
  k_with "my puts" => (first | with_reducible exact lex_state | with_reducible exact lex_token | with_reducible exact lex_line | with_reducible exact sio_pos)
  k_with "ite" => (first | with_reducible refine ite_tt ?_ | with_reducible refine ite_ff ?_)
  k_with "pyIter ref" => (refine stop_here ?_)
  k_with "call builtin:iter" => (((with_reducible rename Fr _ _ _ _ => F'); (with_reducible rename News _ _ _ _ => N'); (refine' iter_list F' N' ?l ?_; (case l => with_reducible assumption)); intro I' o' h' hi' F' N' lt'))
  k_with "call builtin:next" => (((with_reducible rename Fr _ _ _ _ => F'); (with_reducible rename News _ _ _ _ => N'); (refine' next_list F' N' ?l ?o ?x ?ne ?_; (case o => with_reducible assumption); (case l => with_reducible assumption); (case x => exact tx4_0); (case ne => exact fun _ h => nomatch h)); intro o' h' hi' F' N'))
  k_with "callWith ref" => (((with_reducible show wpAny _ _ (callWith _ (Value.ref _) _ _ _) _ _ _); k_dflt (refine' callWith_lam ?Y ?B ?_; (case Y => with_reducible assumption); (case B => with_reducible assumption))))
  k_with "And" => (((with_reducible show StG _ _ ∧ _); (with_reducible rename Fr _ _ _ _ => F'); refine ⟨stG_of F', ?_⟩; try dsimp only [List.nil_append, List.cons_append]))
  k_with "call ref" => (((with_reducible show wpAny _ _ (call (Value.ref _) [Value.str _ _, Value.str _ _]) _ _ _); (try dsimp only [List.cons_append, List.nil_append]); (with_reducible rename Fr _ _ _ _ => F'); (with_reducible rename News _ _ _ _ => N'); (refine' k_lam ?Y ?hr ?la ?lb ?ra ?rb ?B F' N' ?X ?T rfl rfl ?dp ?un ?_ ?_; (case B => with_reducible assumption); (case Y => with_reducible assumption); (case hr => exact rfl); (case la => with_reducible assumption); (case lb => with_reducible assumption); (case ra => with_reducible assumption); (case rb => with_reducible assumption); (case X => with_reducible assumption); (case T => with_reducible assumption); (case dp => omega); (case un => omega)); all_goals (first | (intro n' h' tk' e1' F' N'; have chk9' : Fr _ _ _ _ := F'; clear chk9') | intro e1' h' tk' e' h₂ F' R' U')))
  k_fill
  exact ⟨rfl, rfl⟩
open PySem.W.X PySem.Builtin
set_option autoImplicit false
theorem c_reduce {base : Heap} {s : Shared} {R : Result → Shared → Prop} {vn : Value} {Z : KCls} {f sq : Addr} {l ks : Nat → List Nat} {tn : Nat → Bool} {t : Nat → Tok} {c : Nat → Nat → Option Int}
    (Y : LamB w.params vn Z base f) (hT : ∀ i, i < 4 → (l i).length < 400000 ∧ Reads (l i) (ks i) (tn i)) (hs : base.IsList sq (tx4 l t)) (hc : ∀ a b, c a b = cmpR (ks a) (tn a) (ks b) (tn b))
    (B : Below (ar dp un gd outs) base outs s.heap) (X : (pre.heap_1 w.params).In base) (TT : Top p loose mean mg mb base) (V : Free base outs s.heap []) (hdp : dp + 45 < recursionLimit) (hu : un + 190 < cLine)
    (ret : ∀ b h' tk', redV c 3 = some b → Kept [] s.heap h' → R (.ok (.ret (.str (tx (l b)) (t b)))) { s with heap := h', toks := tk' })
    (bad : redV c 3 = none → ∀ h' tk' e, Refused base outs s.heap [] e h' → R (.error (.ref e)) { s with heap := h', toks := tk' }) :
    codeAny (model PG w) (ar dp un gd outs) (.call (.ref 742) ⟨[.ref f, .ref sq], []⟩) R s := by
  k_dflt ktr_unf
  with_reducible rename Kept _ _ _ => K'
  with_reducible rename Below _ _ _ _ => BB
  have hs' := hs.at fun o e => BB.stays _ o e
  clear hs
  ktr_rel
  unfold Stop
  with_reducible rename Fr _ _ _ _ => F'
  with_reducible rename News _ _ _ _ => N'
  with_reducible rename ItO _ _ (0 + 1) => hI
  have hm := N' _ (.head _)
  refine wpAny_pyIter_listiter (l := sq) (i := 1) ⟨_, hm.1, hI.c, hI.d⟩ ?_
  refine re_loop (c := c) F' N' hI hs' rfl rfl rfl ?_ ?_
  · intro i b u h₁ tk₁ own hi hb4 hi4 hb F' N'
    obtain ⟨la1, ra1⟩ := hT b hb4
    obtain ⟨la2, ra2⟩ := hT (i + 1) hi4
    clear hT
    ktr_rel
    all_goals (repeat' (first | k_unfold | dsimp only))
    · with_reducible rename Fr _ _ _ _ => F9
      with_reducible rename News _ _ _ _ => N9
      exact re_next (Qr := fun _ _ => True) (Qb := fun _ => True) F9 N9 hb ((hc _ _).trans (by with_reducible assumption)) rfl rfl
    · refine bad ?_ _ _ _ (refused_of K' (by with_reducible assumption) (by with_reducible assumption))
      have := redV_none (redV_bad hb ((hc _ _).trans (by with_reducible assumption))) (3 - (i + 1))
      rwa [show i + 1 + (3 - (i + 1)) = 3 from Nat.add_sub_cancel' hi] at this
  · intro b u h' tk hb F' N'
    ktr_rel
    all_goals (repeat' (first | k_unfold | dsimp only))
    with_reducible rename Fr _ _ _ _ => F9
    exact ret _ _ _ hb (kept_of K' F9)
end
section
open PySem.W.X PySem.Builtin
set_option autoImplicit false
theorem newsSub {g h : Heap} {L : Addr} {l l' : List (Addr × Obj)} (N : News g L h l) (sub : ∀ q ∈ l', q ∈ l) : News g L h l' := fun q hq => N q (sub q hq)
theorem ne_of_obj {g h : Heap} {L : Addr} {l : List (Addr × Obj)} (N : News g L h l) {p q : Addr × Obj} (hp : p ∈ l) (hq : q ∈ l) (ne : p.2 ≠ q.2) : p.1 ≠ q.1 := fun e => by
  have a := (N p hp).1
  have b := (N q hq).1
  rw [e, b] at a
  exact ne (Option.some.inj a).symm
theorem enterCP {w : World} {s : Shared} {base : Heap} {outs : List Env} {K : Frag} {p : Program} {loose : List Str} {mean : ExcName → Option Value} {mg mb : Str → Option Value} {dp un : Nat} {gd : Option (List Code)}
    {R : Result → Shared → Prop} {name qual : Str} {params : Arguments} {body : List Stmt} {scope : Scope} {dV kV doc pm cdv ct oc : Value} {an od : Option Addr} {osl : Array (Option Value)} {f : Addr} {args : Args} {binds : List (Str × Value)} {pre : List (Addr × Obj)}
    (B : Below (ar dp un gd outs) base outs s.heap) (X : K.In base) (T : Top p loose mean mg mb base) (V : Free base outs s.heap pre)
    (ho : K.lookup f = some ⟨oc, od, .func (fnOf name qual params body scope dV kV doc pm an cdv ct), osl⟩) (hcd : codeIn K cdv qual = true) (hroom : dp < recursionLimit)
    (hbind : BindsTo s (fnOf name qual params body scope dV kV doc pm an cdv ct) args binds) (hkind : (binds.all fun y => scope.names.lookup y.1 == some .local || scope.names.lookup y.1 == some .cell) = true)
    (hnd : ((cellsFrom 0 scope.names []).map (·.1)).Nodup)
    (h : ∀ g L' h₁ tk cells, g = hideAll s.heap (pre.map (·.1)) → Kept (pre.map (·.1)) s.heap g → Fr g L' h₁ (bindL (envOfC qual scope L' f cdv).kindOf binds fun _ => none) → News g L' h₁ (cells ++ pre) →
      CellsAre (bindC (envOfC qual scope L' f cdv).kindOf binds fun _ => none) (cellsFrom (L' + 1) scope.names []) cells → Below (ar dp un gd outs) base outs g → K.In g → Top p loose mean mg mb g →
      wpAny (model PG w) ((ar dp un gd outs).deeper (envOfC qual scope L' f cdv)) (execs body (envOfC qual scope L' f cdv))
        (fun fl s' => EndR R (match fl with | .ret v => v | _ => .none) s')
        (fun e s' => wpAny (model PG w) ((ar dp un gd outs).deeper (envOfC qual scope L' f cdv)) (leaving (envOfC qual scope L' f cdv) e) (fun _ s'' => R (.error e) s'') (fun e' s'' => R (.error e') s'') s')
        { s with heap := h₁, toks := tk })
    (hco : scope.isCoroutine = false) (hgen : scope.isGenerator = false) (hk : scope.kind = .function) : codeAny (model PG w) (ar dp un gd outs) (.call (.ref f) args) R s := by
  have XS := X.keeps B.stays
  have BG := hide_below B V
  refine codeAny_call_function (fd := fnOf name qual params body scope dV kV doc pm an cdv ct) hroom (XS _ _ ho) rfl hco hgen rfl (codeRec_of XS hcd) (hbind _ _ _ _ ?_)
  refine wpAny_newFunctionEnv_cells hk (kindsX hkind _) fun env' he s' x => ?_
  subst he
  refine ⟨(T.nolimit.keeps B.stays).keeps x.toInCall.keep, codeAny_func ?_⟩
  obtain ⟨h₁, tk, rfl, _⟩ := x.done
  have hk₁ := x.toInCall.keep
  obtain ⟨cells, NC, Y⟩ := Cl.news (h₀ := s.heap) (Nat.le_refl _) fun n c hm => ⟨x.cell n c (lookup_of_mem_nodup (cellsFrom_names scope.names 0 (s.heap.objs.size + 1) [] [] rfl ▸ hnd) hm), x.above n c hm⟩
  refine h _ s.heap.objs.size h₁ tk cells rfl (fun b o e n => hideAll_get _ e n) ⟨x.toInCall.ns, fun b o e => hk₁ b o (of_hideAll _ e), Nat.le_of_eq (hideAll_size _ _)⟩ (fun q hq => ?_) Y BG (X.keeps BG.stays) (T.keeps BG.stays)
  rcases List.mem_append.mp hq with hq | hq
  · refine ⟨(NC q hq).1, (NC q hq).2.1, ?_⟩
    cases e : (hideAll s.heap (pre.map (·.1))).get? q.1 with
    | none => rfl
    | some o =>
      have := of_hideAll _ e
      rw [(NC q hq).2.2] at this; cases this
  · exact ⟨hk₁ _ _ (V q hq).1, Nat.ne_of_lt (Heap.lt_size (V q hq).1), hideAll_none _ (List.mem_map_of_mem hq)⟩
section
variable {M : Model} {A : Around} {E : Value → Shared → Prop} {s : Shared} {g : Heap} {L a c : Addr} {m : Str → Option Value} {cn : Str} {cs : Scope} {ccd : Value} {cl : List (Str × Addr)} {x : Str} {v : Value} {led rest : List (Addr × Obj)} {o : Obj} {v₀ : Option Value}
theorem store_cell {Q : Unit → Shared → Prop} (F : Fr g L s.heap m) (N : News g L s.heap led) (hm : (c, o) ∈ led) (hd : o.data = .cell v₀) (rest : List (Addr × Obj)) (hs : ∀ q ∈ rest, q ∈ led ∧ q.1 ≠ c)
    (h : ∀ h' o', Fr g L h' m → News g L h' ((c, o') :: rest) → o'.data = .cell (some v) → Q () { s with heap := h' })
    (hc : (envX cn cs L a ccd cl).cells.lookup x = some c) (hk : cs.kind = .function) (hx : (envX cn cs L a ccd cl).kindOf x = some .cell) : wpAny M A (storeName (envX cn cs L a ccd cl) x v) Q E s := by
  have hmem := N (c, o) hm
  refine wpAny_storeName_cell hk hx hc ⟨o, hmem.1, hd⟩ fun h' hv hs' => ?_
  obtain ⟨o', ho', hd'⟩ := hv
  refine h h' o' (F.change hs' hmem.2.1 hmem.2.2) (fun q hq => ?_) hd'
  rcases List.mem_cons.mp hq with rfl | hq
  · exact ⟨ho', hmem.2⟩
  · exact ⟨hs'.extBut _ _ (hs q hq).2 (N q (hs q hq).1).1, (N q (hs q hq).1).2⟩
end
section
variable {w : World} {A₀ : Around} {E : Value → Shared → Prop} {s' : Shared} {base g g₀ G : Heap} {outer : List Env} {L a e : Addr} {m : Str → Option Value} {name : Str} {scope : Scope} {cd : Value} {cl : List (Str × Addr)}
  {n : Str} {b₀ : Stmt} {suite : List Stmt} {pos np : Pos} {rest : List ExceptHandler} {Q : Flow → Shared → Prop} {news : List (Addr × Obj)} {KF : Frag}
  {p : Program} {loose : List Str} {mean : ExcName → Option Value} {mg mb : Str → Option Value} {x : Str} {X T' : String}
theorem caught_SX0 (R : RaisedSN base G (envX name scope L a cd cl :: outer) e (.type X) news s'.heap) (F : Fr g L G m) (K : Below A₀ base outer g) (hsm : G.UpToSlots s'.heap) (XB : KF.In base) (TB : Top p loose mean mg mb base)
    (D : KtsDicts (outer.filterMap (·.frame)) g) (T0 : KtsTurn (outer.filterMap (·.frame)) g₀ g)
    (ex : nsIn KF mainGlobals x = some none) (hv : bootBuiltins x = some (.type T')) (hn' : x ≠ "__name__")
    (hexc : isSubtype (.type T') (.type "BaseException") = pure true) (hnt : isSubtype (.type ((Manifest.find? T').elim "type" fun y => y.metatype)) (.type "tuple") = pure false) (hsub : isSubtype (.type X) (.type T') = pure true)
    (k : ∀ h' g', KtsTurn (outer.filterMap (·.frame)) g₀ g' → Fr g' L h' m → News g' L h' news → Below A₀ base outer g' → KF.In g' → Top p loose mean mg mb g' → KtsDicts (outer.filterMap (·.frame)) g' →
      wpAny (model PG w) ((A₀.deeper (envX name scope L a cd cl)).mark (some (.ref e))) (execs (b₀ :: suite) (envX name scope L a cd cl)) Q E { s' with heap := h' })
    (hk : scope.kind = .function) (hx : (envX name scope L a cd cl).kindOf x = some .globalImplicit) (hd : (x == ("__debug__" : Str)) = false)
    (hE : PassesOwnAt (model PG w) ((A₀.deeper (envX name scope L a cd cl)).mark (some (.ref e))) (A₀.deeper (envX name scope L a cd cl)) (envX name scope L a cd cl) E) :
    wpAny (model PG w) (A₀.deeper (envX name scope L a cd cl)) (noteFrame (.ref e) (envX name scope L a cd cl))
      (fun _ s₂ => wpAny (model PG w) (A₀.deeper (envX name scope L a cd cl)) (setFlight (.ref e) none) (fun _ s₃ =>
        wpAny (model PG w) (A₀.deeper (envX name scope L a cd cl)) (handleBy (.ref e) (envX name scope L a cd cl) (.ExceptHandler (some (.Name x np)) none (b₀ :: suite) pos :: rest)) Q E s₃) E s₂) E s' := by
  obtain ⟨B, a0, hB, hBG, hl, hfl⟩ := R
  have hL : B.get? L = none := by
    obtain ⟨_, ⟨L', _, hf, hn', _⟩, _⟩ := hfl.2.2.1
    obtain rfl : L = L' := Option.some.inj hf
    exact hn'
  have hBG' : ∀ b o, G.get? b = some o → b ∉ (envOf name scope L a cd :: outer).filterMap (·.frame) → B.get? b = some o := hBG
  refine wpAny_looks_onW (Around.frames_deeper K.stack) rfl hfl fun h₄ hheld₄ hsm₄ => ?_
  refine wpAny_landsW hheld₄ fun h₅ hheld hsm₅' => ?_
  have hsm₅ := hsm₄.trans hsm₅'
  obtain ⟨g₅, T₅, F₅, K₅⟩ := kts_ground K F hBG' hheld.1 (hsm.trans hsm₅)
  have X₅ : KF.In g₅ := XB.keeps K₅.stays
  have P₅ : TopRead p loose mg mb g₅ := topRead_of (TB.keeps K₅.stays)
  obtain ⟨ob, hob, hobc⟩ := hheld.there
  refine wpAny_handleBy_builtin (X := X) (T := T') (b := true) hexc hnt hsub (nameX_B F₅ X₅ P₅ ex hv hn' ⟨rfl, ⟨ob, hob, hobc⟩, ?_⟩ hk hx hd)
  refine lands_againW hheld fun h₆ hfl₆ hsm₆ => ?_
  obtain ⟨g₆, T₆, F₆, K₆⟩ := kts_ground K F hBG' hfl₆.1 ((hsm.trans hsm₅).trans hsm₆)
  have Nl : News g₆ L h₆ news := fun q hq => ⟨hfl₆.1 _ _ (hl q hq).1, (fun z => by have := (hl q hq).1; rw [z, hL] at this; cases this), T₆.none_ _ (kts_none F.keep (hl q hq).2.1)⟩
  have X₆ : KF.In g₆ := XB.keeps K₆.stays
  have P₆ : Top p loose mean mg mb g₆ := TB.keeps K₆.stays
  have D₆ : KtsDicts (outer.filterMap (·.frame)) g₆ := D.turn T₆
  exact wpAny_passesOwnAt hE (k h₆ g₆ (T0.trans T₆) F₆ Nl K₆ X₆ P₆ D₆)
end
theorem caught_rX {base g h : Heap} {L a e : Addr} {m : Str → Option Value} {name : Str} {scope : Scope} {cd : Value} {cl : List (Str × Addr)} {s' : Shared} {E : Value → Shared → Prop} {led pl : List (Addr × Obj)} {as : List Addr}
    {b₀ : Stmt} {suite : List Stmt} {pos np : Pos} {rest : List ExceptHandler} {Q : Flow → Shared → Prop}
    (X9 : Refused (widest h (envX name scope L a cd cl :: outs) as) (envX name scope L a cd cl :: outs) h as e s'.heap) (has : as = pl.map (·.1)) (B : Below (ar dp un gd outs) base outs g) (F : Fr g L h m) (N : News g L h (pl ++ led)) (ap : ∀ x ∈ led, x.1 ∉ pl.map (·.1)) (D : KtsDicts (outs.filterMap (·.frame)) g)
    (X : (pre.heap_1 w.params).In base) (TT : Top p loose mean mg mb base) (ex : nsIn (pre.heap_1 w.params) mainGlobals (Str.ofString "ValueError") = some none)
    (k : ∀ h'' g', KtsTurn (outs.filterMap (·.frame)) g g' → Fr g' L h'' m → News g' L h'' led → Below (ar dp un gd outs) base outs g' → (pre.heap_1 w.params).In g' → Top p loose mean mg mb g' →
      wpAny (model PG w) (((ar dp un gd outs).deeper (envX name scope L a cd cl)).mark (some (.ref e))) (execs (b₀ :: suite) (envX name scope L a cd cl)) Q E { s' with heap := h'' })
    (hk : scope.kind = .function) (hx : (envX name scope L a cd cl).kindOf (Str.ofString "ValueError") = some .globalImplicit)
    (hE : PassesOwnAt (model PG w) (((ar dp un gd outs).deeper (envX name scope L a cd cl)).mark (some (.ref e))) ((ar dp un gd outs).deeper (envX name scope L a cd cl)) (envX name scope L a cd cl) E) :
    wpAny (model PG w) ((ar dp un gd outs).deeper (envX name scope L a cd cl)) (noteFrame (.ref e) (envX name scope L a cd cl))
      (fun _ s₂ => wpAny (model PG w) ((ar dp un gd outs).deeper (envX name scope L a cd cl)) (setFlight (.ref e) none) (fun _ s₃ =>
        wpAny (model PG w) ((ar dp un gd outs).deeper (envX name scope L a cd cl)) (handleBy (.ref e) (envX name scope L a cd cl) (.ExceptHandler (some (.Name (Str.ofString "ValueError") np)) none (b₀ :: suite) pos :: rest)) Q E s₃) E s₂) E s' := by
  subst has
  obtain ⟨h₂, F₂, R₂, U₂⟩ := refused_backS (pre := pl) (rest := led) B F N rfl ap X9
  exact caught_SX0 (T' := "ValueError") R₂ F₂ B U₂ X TT D KtsTurn.refl ex PyProof.Rows.Boot.«ValueError» (by decide +kernel) PySem.F.isExc_ValueError PySem.F.notTuple_ValueError (by rw [isSubtype_type]; kernel_rfl) (fun h'' g' T F' N' B' X' T' _ => k h'' g' T F' N' B' X' T') hk hx (by decide) hE
end
section
open PySem.W.X PySem.Builtin
set_option autoImplicit false
noncomputable def NT (o : Obj) : Prop := o.cls ≠ .none ∨ ∃ vs q t, o.data = .fields vs ∧ vs[1]? = some (.str q t)
noncomputable def Tb (o : Obj) : Prop := ∃ l : List Value, o = tabL l ∧ ∀ q t, l[1]? ≠ some (.str q t)
theorem nt_tb {o o' : Obj} (a : NT o) (b : Tb o') : o ≠ o' := fun e => by
  obtain ⟨l, rfl, hl⟩ := b
  rcases a with a | ⟨vs, q, t, h1, h2⟩
  · exact a (by rw [e])
  · rw [e] at h1
    have h1 : Data.fields l.toArray = Data.fields vs := h1
    cases h1
    exact hl q t (by rw [← h2]; simp)
theorem tb_nil : Tb (tabL []) := ⟨_, rfl, fun _ _ h => nomatch h⟩
theorem tb_728 {v : Value} : Tb (tabL [rawInt 725, rawInt 4, v]) := ⟨_, rfl, fun _ _ h => nomatch h⟩
theorem tb_kTab {P : Params} {c2 : Nat → Addr} : Tb (tabL (kTab P c2)) := ⟨_, rfl, fun _ _ h => by
  have h : some (rawInt (kCol P 0)) = some _ := h
  cases h⟩
theorem nil_ne_kTab {P : Params} {c2 : Nat → Addr} : tabL [] ≠ tabL (kTab P c2) := fun e => by
  have e : Data.fields #[] = Data.fields (kTab P c2).toArray := congrArg Obj.data e
  have e : (#[] : Array Value) = (kTab P c2).toArray := by injection e
  have e := congrArg Array.size e
  rw [List.size_toArray] at e
  have e : 0 = 18 := e
  cases e
theorem nt_code {o : Obj} {q : Str} (h : CodeOf o q) : NT o := .inr (let ⟨vs, t, a, b⟩ := h; ⟨vs, q, t, a, b⟩)
theorem nt_cell {o : Obj} {v : Option Value} (h : o.data = .cell v) {l : List Value} : o ≠ tabL l := fun e => by
  rw [e] at h
  cases h
theorem nt_own {P : Params} {vn v : Value} {Z : KCls} : ∀ q ∈ Z.own P vn v, NT q.2 := by
  have f : ∀ {T : String} {o : Obj}, o.cls = .type T → NT o := fun h => .inl (by rw [h]; exact fun e => nomatch e)
  refine List.forall_mem_cons.2 ⟨f (T := "type") rfl, ?_⟩
  refine List.forall_mem_cons.2 ⟨f (T := "dict") rfl, ?_⟩
  refine List.forall_mem_cons.2 ⟨f (T := "member_descriptor") rfl, ?_⟩
  refine List.forall_mem_cons.2 ⟨f (T := "cell") rfl, ?_⟩
  refine List.forall_mem_cons.2 ⟨f (T := "function") rfl, ?_⟩
  refine List.forall_mem_cons.2 ⟨f (T := "function") rfl, ?_⟩
  refine List.forall_mem_cons.2 ⟨f (T := "function") rfl, ?_⟩
  refine List.forall_mem_cons.2 ⟨f (T := "function") rfl, ?_⟩
  refine List.forall_mem_cons.2 ⟨f (T := "function") rfl, ?_⟩
  refine List.forall_mem_cons.2 ⟨f (T := "function") rfl, ?_⟩
  exact fun _ h => nomatch h
theorem nt_cLed {P : Params} {c2 : Nat → Addr} {oc : Nat → Obj} (h : ∀ i, i < 6 → CodeOf (oc i) (kQual P i)) : ∀ q ∈ cLed c2 oc, NT q.2 := by
  refine List.forall_mem_cons.2 ⟨nt_code (h 0 (by decide)), ?_⟩
  refine List.forall_mem_cons.2 ⟨nt_code (h 1 (by decide)), ?_⟩
  refine List.forall_mem_cons.2 ⟨nt_code (h 2 (by decide)), ?_⟩
  refine List.forall_mem_cons.2 ⟨nt_code (h 3 (by decide)), ?_⟩
  refine List.forall_mem_cons.2 ⟨nt_code (h 4 (by decide)), ?_⟩
  refine List.forall_mem_cons.2 ⟨nt_code (h 5 (by decide)), ?_⟩
  exact fun _ h => nomatch h
structure Ctk (P : Params) (c2 : Nat → Addr) (oc : Nat → Obj) (cc : Addr) (ocK : Obj) (PP : Addr) : Prop where
  co : ∀ i, i < 6 → CodeOf (oc i) (kQual P i)
  hd : ∀ h : Heap, h.get? cc = some ocK → CodeHd h cc PP
  lt : @LT.lt Nat _ 728 PP
noncomputable abbrev ctkL (P : Params) (c2 : Nat → Addr) (oc : Nat → Obj) (cc : Addr) (ocK : Obj) (PP : Addr) : List (Addr × Obj) :=
  (PP, tabL (kTab P c2)) :: (728, tabL [rawInt 725, rawInt 4, .ref cc]) :: (782, tabL []) :: (cc, ocK) :: cLed c2 oc
section
variable {P : Params} {c2 : Nat → Addr} {oc : Nat → Obj} {cc : Addr} {ocK : Obj} {PP : Addr} {g h : Heap} {L : Addr} {led : List (Addr × Obj)}
theorem ctk_apart (C : Ctk P c2 oc cc ocK PP) (N : News g L h led) (hl : ∀ q ∈ ctkL P c2 oc cc ocK PP, q ∈ led) {ck : Addr} {oK : Obj} {v : Option Value} (hk : (ck, oK) ∈ led) (hd : oK.data = .cell v) :
    ∀ x ∈ (782, tabL []) :: (cc, ocK) :: (ck, oK) :: cLed c2 oc, x.1 ≠ PP ∧ x.1 ≠ 728 := by
  have hP := hl (PP, tabL (kTab P c2)) (.head _)
  have h7 := hl (728, tabL [rawInt 725, rawInt 4, .ref cc]) (.tail _ (.head _))
  have h8 := hl (782, tabL []) (.tail _ (.tail _ (.head _)))
  have hc := hl (cc, ocK) (.tail _ (.tail _ (.tail _ (.head _))))
  obtain ⟨o, vs, file, tf, flags, tg, inF, text, tt, e1, e2, e3, e4⟩ := C.hd h (N _ hc).1
  have e := (N _ hc).1
  rw [e1] at e
  cases e
  refine List.forall_mem_cons.2 ⟨⟨fun e => ne_of_obj N h8 hP nil_ne_kTab e, by decide⟩, List.forall_mem_cons.2 ⟨⟨?_, ?_⟩, List.forall_mem_cons.2 ⟨⟨?_, ?_⟩, fun x hx => ⟨?_, ?_⟩⟩⟩⟩
  · exact ne_of_obj N hc hP (nt_tb (.inl (by rw [e2]; exact fun e => nomatch e)) tb_kTab)
  · exact ne_of_obj N hc h7 (nt_tb (.inl (by rw [e2]; exact fun e => nomatch e)) tb_728)
  · exact ne_of_obj N hk hP (nt_cell hd)
  · exact ne_of_obj N hk h7 (nt_cell hd)
  · exact ne_of_obj N (hl x (.tail _ (.tail _ (.tail _ (.tail _ hx))))) hP (nt_tb (nt_cLed C.co x hx) tb_kTab)
  · exact ne_of_obj N (hl x (.tail _ (.tail _ (.tail _ (.tail _ hx))))) h7 (nt_tb (nt_cLed C.co x hx) tb_728)
end
section
variable {M : Model} {A : Around} {E : Value → Shared → Prop} {s : Shared} {h₀ : Heap} {L a c P : Addr} {m mg mb : Str → Option Value} {cn : Str} {cs : Scope} {ccd : Value} {cl : List (Str × Addr)} {led : List (Addr × Obj)}
  {p : Program} {loose : List Str} {mean : ExcName → Option Value} {name qual : Str} {params : Arguments} {body : Expr} {scope : Scope} {pos : Pos} {firstLine : Nat} {clos : List (Str × Addr)}
theorem lam_make {Q : Value → Shared → Prop} (F : Fr h₀ L s.heap m) (N : News h₀ L s.heap led) (T : Top p loose mean mg mb h₀) (C : CodeHd h₀ c P) (hP : (P, tabL []) ∈ led) (rest : List (Addr × Obj)) (hs : ∀ q ∈ rest, q ∈ led ∧ q.1 ≠ P)
    (h : ∀ f c' oc vs t ctv ps h' tk, Fr h₀ L h' m → News h₀ L h' ((f, kla_obj name qual params body scope clos ((mg "__name__").getD .none) c' ctv) :: (c', oc) :: (P, tabObj ps) :: rest) → oc.data = .fields vs → vs[1]? = some (.str qual t) → Q (.ref f) { s with heap := h', toks := tk })
    (hcd : ccd = .ref c) (hcl : closureFor scope (envX cn cs L a ccd cl) = pure clos) :
    wpAny M A (makeFunction name qual params (.expr body) scope (envX cn cs L a ccd cl) [] [] [] pos firstLine) Q E s := by
  refine kla_nest F (newsSub N (l' := (P, tabL []) :: rest) fun q hq => ?_) T C hcd (UpdF.head fun q hq => (hs q hq).2) trivial rfl hcl fun f c' oc vs t ctv h' tk F' N' d1 d2 _ _ => h f c' oc vs t ctv _ h' tk F' N' d1 d2
  · rcases List.mem_cons.mp hq with rfl | hq
    · exact hP
    · exact (hs q hq).1
end
theorem k_reduce {base g : Heap} {L : Addr} {m : Str → Option Value} {env : Env} {s : Shared} {Q : Value → Shared → Prop} {E : Value → Shared → Prop} {led : List (Addr × Obj)}
    {vn : Value} {Z : KCls} {f sq : Addr} {l ks : Nat → List Nat} {tn : Nat → Bool} {t : Nat → Tok} {c : Nat → Nat → Option Int} {name qual : Str} {params : Arguments} {body : PySem.Expr} {scope : Scope} {cell c' : Addr} {pm ct : Value} {oc' oC : Obj} {vs : Array Value} {tq : Tok}
    (hL : (f, kla_obj name qual params body scope [(Str.ofString "key", cell)] pm c' ct) ∈ led) (hc' : (c', oc') ∈ led) (hd : oc'.data = .fields vs) (hv : vs[1]? = some (.str qual tq)) (hcell : (cell, oC) ∈ led) (hoC : oC.data = .cell (some (.ref Z.a))) (hsh : LamShape params body scope)
    (hZ : ∀ q ∈ Z.led w.params vn (.ref 773), q ∈ led) (hok : Z.Ok w.params) (hT : ∀ i, i < 4 → (l i).length < 400000 ∧ Reads (l i) (ks i) (tn i)) (hs : base.IsList sq (tx4 l t)) (hc : ∀ a b, c a b = cmpR (ks a) (tn a) (ks b) (tn b))
    (B : Below (ar dp un gd outs) base outs g) (F : Fr g L s.heap m) (N : News g L s.heap led) (X : (pre.heap_1 w.params).In base) (TT : Top p loose mean mg mb base)
    (hf : env.frame = some L) (hk : env.scope.kind = .function) (hdp : dp + 47 < recursionLimit) (hu : un + 195 < cLine)
    (q : ∀ b h' tk', redV c 3 = some b → Fr g L h' m → News g L h' led → Q (.str (tx (l b)) (t b)) { s with heap := h', toks := tk' })
    (bad : redV c 3 = none → ∀ h' tk' e, Refused (widest s.heap (env :: outs) []) (env :: outs) s.heap [] e h' → E (.ref e) { s with heap := h', toks := tk' }) :
    wpAny (model PG w) ((ar dp un gd outs).deeper env) (call (.ref 742) [.ref f, .ref sq]) Q E s := by
  have V := free_of B F N hf (pre := []) fun _ h => nomatch h
  have BX := pushX B F hf hk
  have W1 := base_widest BX V
  have W2 := below_widest (as := []) BX
  have W3 := free_widest (base := base) V
  simp only [List.map_nil] at W1 W3
  have Y : LamB w.params vn Z (widest s.heap (env :: outs) []) f := ⟨⟨name, qual, params, body, scope, cell, pm, ct, c', oC, news_W B F N hf hL, ⟨c', oc', vs, tq, rfl, news_W B F N hf hc', hd, hv⟩, news_W B F N hf hcell, hoC, hsh⟩, stand_W B F N hf hZ, hok⟩
  refine call_by fun R ok er => c_reduce (dp := dp + 1) (un := un + 3) (outs := env :: outs) Y hT (hs.at fun o e => W1 _ _ e) hc W2 (X.keeps W1) (TT.keeps W1) W3 (by omega) (by omega) ?_ ?_
  · intro b h' tk' e kk
    exact ok _ _ (q b h' tk' e (back0 F N kk).1 (back0 F N kk).2)
  · intro e1 h' tk' e r
    exact er _ _ (bad e1 h' tk' e r)
theorem ch786 {P : Params} {h : Heap} (X : (pre.heap_1 P).In h) : CodeHd h 786 782 := codeHd_of_K X (by kernel_rfl)
theorem ncell_own {P : Params} {vn : Value} {u : Value} {Z : KCls} : ∀ q ∈ Z.own P vn u, q.2.data ≠ .cell none := by
  refine List.forall_mem_cons.2 ⟨(fun h => nomatch h), ?_⟩
  refine List.forall_mem_cons.2 ⟨(fun h => nomatch h), ?_⟩
  refine List.forall_mem_cons.2 ⟨(fun h => nomatch h), ?_⟩
  refine List.forall_mem_cons.2 ⟨(fun h => nomatch h), ?_⟩
  refine List.forall_mem_cons.2 ⟨(fun h => nomatch h), ?_⟩
  refine List.forall_mem_cons.2 ⟨(fun h => nomatch h), ?_⟩
  refine List.forall_mem_cons.2 ⟨(fun h => nomatch h), ?_⟩
  refine List.forall_mem_cons.2 ⟨(fun h => nomatch h), ?_⟩
  refine List.forall_mem_cons.2 ⟨(fun h => nomatch h), ?_⟩
  refine List.forall_mem_cons.2 ⟨(fun h => nomatch h), ?_⟩
  exact fun _ h => nomatch h
theorem ncell_cLed {P : Params} {c2 : Nat → Addr} {oc : Nat → Obj} (h : ∀ i, i < 6 → CodeOf (oc i) (kQual P i)) : ∀ q ∈ cLed c2 oc, q.2.data ≠ .cell none := by
  have f : ∀ {o : Obj} {q : Str}, CodeOf o q → o.data ≠ .cell none := fun h e => by
    obtain ⟨vs, t, a, _⟩ := h
    rw [a] at e; cases e
  refine List.forall_mem_cons.2 ⟨f (h 0 (by decide)), ?_⟩
  refine List.forall_mem_cons.2 ⟨f (h 1 (by decide)), ?_⟩
  refine List.forall_mem_cons.2 ⟨f (h 2 (by decide)), ?_⟩
  refine List.forall_mem_cons.2 ⟨f (h 3 (by decide)), ?_⟩
  refine List.forall_mem_cons.2 ⟨f (h 4 (by decide)), ?_⟩
  refine List.forall_mem_cons.2 ⟨f (h 5 (by decide)), ?_⟩
  exact fun _ h => nomatch h
theorem cell_apart {g h : Heap} {L ck : Addr} {o : Obj} {led : List (Addr × Obj)} (N : News g L h led) (hk : (ck, o) ∈ led) (hd : o.data = .cell none) {q : Addr × Obj} (hq : q ∈ led) (n : q.2.data ≠ .cell none) : q.1 ≠ ck :=
  ne_of_obj N hq hk fun e => n (by rw [e]; exact hd)
theorem fr_one {g h : Heap} {L : Addr} {m : Str → Option Value} {x : Str} {v : Value} (F : Fr g L h m) (e : m x = some v) : ∃ m0 : Str → Option Value, Fr g L h (fun y => if y = x then some v else m0 y) := by
  refine ⟨m, ?_⟩
  have : m = fun y => if y = x then some v else m y := by
    funext y
    by_cases h1 : y = x
    · rw [if_pos h1, h1, e]
    · rw [if_neg h1]
  exact this ▸ F
end
section
theorem fill_Le : PySem.Challenge.rw_ij0136_01 = PySem.Challenge.rw_ij0136_01 ∧ pre.heap_1 = pre.heap_1 := by
  k_with_none
  k_with "my rel" => (repeat' (first | (k_unfold; (try dsimp only)) | walk1 | walk_at "my next" | (dsimp only; walk1) | (leave1; try dsimp only) | fail "no step"))
  k_with "my room" => (((try simp only [depth_mark, depth_under_make, depth_under_kw, depth_in1, depth_deeper, depth_caller]); (try dsimp only [ar]); omega))
  k_with "my units" => ((have hcL9 := cLine_is; (try simp only [units_in1, units_deeper, Around.mark_units, units_caller]); (try dsimp only [ar]); omega))
  k_with "my unf" => ((refine' enter ?k1 ?k2 ?k3 ?k4 ?k6 ?k7 ?k8 ?k9 ?kB ?_ ?c2 ?c3 ?c4 ?c5; (case k1 => assumption); (case k2 => assumption); (case k3 => assumption); (case k4 => assumption); (case k6 => k_is); (case k7 => k_is); (case k8 => k_room); (case k9 => first | exact BindsTo.of_eq rfl | exact binds_K (Frag.In.keeps (by assumption) (Below.stays (by assumption))) rfl (by k_is) rfl rfl rfl); (case c5 => decide); (case kB => exact locs rfl); (case c2 => exact rfl); (case c3 => exact rfl); (case c4 => exact rfl); k_whole; intro g' L' h' G' F' N' B' X' T'; (try simp only [List.map_cons, List.map_nil] at G'); (try dsimp only); (try k_fold)))
  k_with "subscriptTail Attribute Name Slice str ref" => (((with_reducible rename Fr _ _ _ _ => F'); (with_reducible rename News _ _ _ _ => N'); (refine slice_strN_ss (hsz := ?hsz) (s := ⟨_, _, _, _, _⟩) F' N' ?_); (case hsz => (rw [sizeLine_eq]; omega)); intro h' t' tk' F' N'; (try k_sweep)))
  k_with "subscriptTail BinOp Subscript Add Constant Slice str ref" => (((with_reducible rename Fr _ _ _ _ => F'); (with_reducible rename News _ _ _ _ => N'); (refine slice_strN_ns (hsz := ?hsz) (s := ⟨_, _, _, _, _⟩) F' N' ?_); (case hsz => exact size_sl (by with_reducible assumption)); intro h' t' tk' F' N'; (try k_sweep)))
  k_with "call builtin:str.find" => (refine find4 ?_)
  k_with "my apart" => (repeat' (first | (refine List.forall_mem_cons.2 ⟨⟨?_, ?_⟩, ?_⟩) | exact List.forall_mem_nil _ | with_reducible assumption | (apply Ne.symm; with_reducible assumption)))
  k_with "binaryOp Add str str" => (((refine add_str (hsz := size_slc (by with_reducible assumption)) ?_); intro _ _))
  k_with "execs cons" => (((try dsimp only); first | (with_reducible refine nx_last ?_) | ((with_reducible refine nx_cons ?_); intro q' nx')))
  k_with "execs nil" => (with_reducible refine wpAny_execs_nil ?_)
  k_with "my next" => (with_reducible first | refine trq_b ?_ | refine ifq_t ?_ | refine ifq_f ?_ | refine ifq ?_ | refine trq ?_ | refine nx_next (by assumption) ?_ | refine nx_ret (by assumption) ?_ | refine nx_brk (by assumption) ?_ | refine nx_cont (by assumption) ?_)
  k_with "eval Constant int" => (((with_reducible refine int_T ?_); intro t' tk'))
  k_with "eval Constant str" => (((with_reducible refine str_T ?_); intro t' tk'))
  k_with "my nth" => (with_reducible first | exact nth_0 | exact nth_1 | exact nth_2 | exact nth_3 | exact nth_4 | exact nth_5 | exact nth_6)
  k_with "my ne" => (first | with_reducible assumption | exact Ne.symm (by with_reducible assumption) | k_ne)
  k_with "my allne" => (first | with_reducible exact all_nil | (refine' all_cons ?a ?b; (case a => walk_at "my ne"); (case b => walk_at "my allne")))
  k_with "my upd" => (first | (refine' upd_head ?a; (case a => walk_at "my allne")) | (refine' upd_tail ?a ?b; (case a => walk_at "my ne"); (case b => walk_at "my upd")))
  k_with "eval Name" => ((k_here; (with_reducible first | show wpAny _ _ (PySem.eval _ (envOf _ _ _ _ _)) _ _ _ | show wpAny _ _ (PySem.eval _ (envX _ _ _ _ _ _)) _ _ _); k_dflt (refine' name_T ?F ?v ?o ?_; (case F => k_asm); (case o => exact rfl); (case v => rfl); k_whole)))
  k_with "eval Attribute Name" => ((k_here; (with_reducible first | show wpAny _ _ (PySem.eval _ (envOf _ _ _ _ _)) _ _ _ | show wpAny _ _ (PySem.eval _ (envX _ _ _ _ _ _)) _ _ _); k_dflt (refine' own_T ?F ?x ?lo ?X ?N ?h1 ?h2 ?ok ?ho ?hl ?hv ?_; (case F => k_asm); (case lo => exact rfl); (case x => exact rfl); (case X => k_asm); (case N => k_asm); (case h1 => walk_at "my nth"); (case h2 => walk_at "my nth"); (case ok => (intro P9; kernel_rfl)); (case ho => first | exact rfl | walk_at "my isD"); (case hl => first | k_get | walk_at "my getl"); (case hv => first | exact rfl | k_handed); k_whole); intro tk'))
  k_with "getAttr ref" => ((k_here; k_dflt (refine' get_T ?F ?X ?N ?h1 ?h2 ?ok ?ho ?hl ?hv ?_; (case F => k_asm); (case X => k_asm); (case N => k_asm); (case h1 => walk_at "my nth"); (case h2 => walk_at "my nth"); (case ok => (intro P9; kernel_rfl)); (case ho => first | exact rfl | walk_at "my isD"); (case hl => first | k_get | walk_at "my getl"); (case hv => first | exact rfl | k_handed); k_whole); intro tk'))
  k_with "storeName" => ((k_here; (with_reducible first | show wpAny _ _ (PySem.storeName (envOf _ _ _ _ _)  _ _) _ _ _ | show wpAny _ _ (PySem.storeName (envX _ _ _ _ _ _)  _ _) _ _ _); k_dflt (refine' store_T ?F ?N ?o ?_; (case F => k_asm); (case N => k_asm); (case o => exact rfl); k_whole); intro h' tk' F' N'; (try k_sweep)))
  k_with "setAttr ref" => ((k_here; k_dflt (refine' set_T ?F ?X ?N ?h1 ?h2 ?ok ?e ?U ?_; (case F => k_asm); (case X => k_asm); (case N => k_asm); (case h1 => walk_at "my nth"); (case h2 => walk_at "my nth"); (case ok => (intro P9; kernel_rfl)); (case e => walk_at "my puts"); (case U => walk_at "my upd"); k_whole); intro h' tk' F' N'; (try k_sweep)))
  k_with "ite" => (first | with_reducible refine ite_tt ?_ | with_reducible refine ite_ff ?_)
  k_with "my ofb" => (with_reducible first | exact Nat.ne_of_beq_eq_false rfl | exact off1 | exact ffo1 | exact off2 | exact ffo2 | exact off3 | exact ffo3 | exact off4 | exact ffo4 | exact off5 | exact ffo5 | exact off6 | exact ffo6)
  k_with "my off" => (with_reducible first | walk_at "my ofb" | (refine strip ?_; first | walk_at "my ofb" | (refine strip ?_; first | walk_at "my ofb" | (refine strip ?_; first | walk_at "my ofb" | (refine strip ?_; first | walk_at "my ofb" | (refine strip ?_; walk_at "my ofb"))))))
  k_with "my omega" => (with_reducible first | (show _ < _; first | exact room (by assumption) rfl | exact room0 (by assumption) | exact room2 (by assumption) rfl | exact room3 (by assumption) rfl | exact room4 (by assumption) rfl | exact room5 (by assumption) rfl | exact lt_ble rfl | exact om_i63' (by assumption) rfl | exact om_i63 (by assumption) rfl | exact Nat.succ_lt_succ (by assumption) | exact Nat.lt_of_succ_lt_succ (by assumption) | exact Int.ofNat_lt.2 (by assumption) | exact Int.ofNat_lt.1 (by assumption)) | (show _ ≤ _; first | exact Nat.le_of_ble_eq_true rfl | exact Nat.le_refl _ | exact Nat.le_succ _ | exact Nat.le_add_right _ _ | exact om_ltle (by assumption) rfl | exact om_le (by assumption) rfl | exact Nat.le_of_lt (by assumption) | exact Int.ofNat_le.2 (by assumption) | exact Int.natCast_nonneg _ | exact Int.ofNat_le.1 (by assumption) | exact om_addl rfl) | (show _ ≠ _; first | walk_at "my off" | exact om_nne (by assumption)) | (show _ = _; first | exact om_nn (by assumption)) | (show False; first | exact no3 (by assumption) | exact no4 (by assumption) | exact no5 (by assumption) | exact no6 (by assumption)) | fail "no")
  k_with "my cmp" => (((case F => k_asm); (case o => exact rfl); (case v => rfl)))
  k_with "isTrue Compare" => (first | (k_here; (with_reducible first | show wpAny _ _ (isTrue _ (envOf _ _ _ _ _) _) _ _ _ | show wpAny _ _ (isTrue _ (envX _ _ _ _ _ _) _) _ _ _); first | ((with_reducible show wpAny _ _ (isTrue (.Compare (.Name _ _) [_] [.Constant (.str _) _ _] _) _ _) _ _ _); k_dflt (refine' cmp_s ?F ?v ?o ?_ ?m; walk_at "my cmp"; (case m => with_unfolding_all rfl); k_whole; intro t' tk')) | ((with_reducible show wpAny _ _ (isTrue (.Compare (.Name _ _) [_] [.Constant (.int _) _ _] _) _ _) _ _ _); k_dflt (refine' cmp_i ?F ?v ?o ?_ ?m; walk_at "my cmp"; (case m => with_unfolding_all rfl); k_whole; intro t' tk')) | ((with_reducible show wpAny _ _ (isTrue (.Compare (.Name _ _) [_] [.Constant .none _ _] _) _ _) _ _ _); k_dflt (refine' cmp_n ?F ?v ?o ?_ ?m; walk_at "my cmp"; (case m => with_unfolding_all rfl); k_whole)) | ((with_reducible show wpAny _ _ (isTrue (.Compare (.Name _ _) [_] [.Name _ _] _) _ _) _ _ _); k_dflt (refine' cmp_nn ?F ?v ?o ?u ?p ?_ ?m; walk_at "my cmp"; (case p => exact rfl); (case u => rfl); (case m => with_unfolding_all rfl); k_whole))) | with_reducible refine cmp_1 ?_)
  k_with "exec If" => (with_reducible refine if_T ?_)
  k_with "my puts" => (first | with_reducible exact lex_state | with_reducible exact lex_token | with_reducible exact lex_line | with_reducible exact sio_pos)
  k_with "ite" => (first | with_reducible refine ite_tt ?_ | with_reducible refine ite_ff ?_)
  k_with "ktr_unfP" => ((refine' enterCP ?k1 ?k2 ?k3 ?k4 ?k6 ?k7 ?k8 ?k9 ?kB ?kD ?_ ?c2 ?c3 ?c4; (case k1 => assumption); (case k2 => assumption); (case k3 => assumption); (case k4 => assumption); (case k6 => k_is); (case k7 => k_is); (case k8 => k_room); (case k9 => first | exact BindsTo.of_eq rfl | exact binds_K (Frag.In.keeps (by assumption) (Below.stays (by assumption))) rfl (by k_is) rfl rfl rfl); (case kB => exact rfl); (case kD => decide +kernel); (case c2 => exact rfl); (case c3 => exact rfl); (case c4 => exact rfl); k_whole; intro g' L' h' tk' cells' GE' G' F' N' Y' B' X' T'; k_cells Y'; (try simp only [List.cons_append, List.nil_append] at N'); (try dsimp only); (try k_fold)))
  k_with "call ref" => (((with_reducible show wpAny _ _ (call (Value.ref 733) _) _ _ _); (try dsimp only [List.cons_append, List.nil_append]); refine stop_here ?_))
  k_with "call ref" => (((with_reducible show wpAny _ _ (call (Value.ref 742) _) _ _ _); (try dsimp only [List.cons_append, List.nil_append]); refine stop_here ?_))
  k_with "storeName" => (refine stop_here ?_)
  k_with "eval Lambda" => ((refine' kla_eval ?d0 ?_; (case d0 => exact rfl); refine stop_here ?_))
  k_with "exec Try" => (((with_reducible show wpAny _ _ (exec (Stmt.Try _ (_ :: _) _ [] _) (envOfC _ _ _ _ _)) _ _ _); refine wpAny_Try_except ?_))
  k_fill
  exact ⟨rfl, rfl⟩
open PySem.W.X PySem.Builtin
set_option autoImplicit false
theorem c_least {base : Heap} {s : Shared} {R : Result → Shared → Prop} {sq : Addr} {l ks : Nat → List Nat} {tn : Nat → Bool} {t : Nat → Tok} {c : Nat → Nat → Option Int}
    {c2 : Nat → Addr} {oc : Nat → Obj} {cc : Addr} {ocK : Obj} {PP : Addr} (C : Ctk w.params c2 oc cc ocK PP)
    (hT : ∀ i, i < 4 → (l i).length < 400000 ∧ Reads (l i) (ks i) (tn i)) (hs : base.IsList sq (tx4 l t)) (hc : ∀ a b, c a b = cmpR (ks a) (tn a) (ks b) (tn b)) (hD : KtsDicts (outs.filterMap (·.frame)) s.heap)
    (B : Below (ar dp un gd outs) base outs s.heap) (X : (pre.heap_1 w.params).In base) (TT : Top p loose mean mg mb base) (V : Free base outs s.heap (ctkL w.params c2 oc cc ocK PP)) (hdp : dp + 60 < recursionLimit) (hu : un + 210 < cLine)
    (ret : ∀ b h' tk', redV c 3 = some b → Kept ((ctkL w.params c2 oc cc ocK PP).map (·.1)) s.heap h' → (∃ ps, h'.get? 782 = some (tabObj ps)) → (∃ ps, h'.get? 728 = some (tabObj ps)) → R (.ok (.ret (.str (tx (l b)) (t b)))) { s with heap := h', toks := tk' })
    (bad : redV c 3 = none → ∀ h' tk' tk2, KeptT outs ((ctkL w.params c2 oc cc ocK PP).map (·.1)) s.heap h' → (∃ ps, h'.get? 782 = some (tabObj ps)) → (∃ ps, h'.get? 728 = some (tabObj ps)) → R (.ok (.ret (.str (Str.ofString "refused") tk2))) { s with heap := h', toks := tk' }) :
    codeAny (model PG w) (ar dp un gd outs) (.call (.ref 787) ⟨[.ref sq], []⟩) R s := by
  k_dflt walk_at "ktr_unfP"
  with_reducible rename _ = hideAll _ _ => GE
  with_reducible rename Kept _ _ _ => KG
  ktr_rel
  unfold Stop
  with_reducible rename Fr _ _ _ _ => F0
  with_reducible rename News _ _ _ _ => N0
  with_reducible rename Below _ _ _ _ => B0
  with_reducible rename Top _ _ _ _ _ _ => T0
  with_reducible rename Frag.In _ _ => X0
  with_reducible rename _ = Data.cell _ => d0
  with_reducible rename Obj => o0
  have d0 : o0.data = Data.cell none := d0
  obtain ⟨m0, F1⟩ := fr_one (x := Str.ofString "texts") (v := .ref sq) F0 rfl
  clear F0
  have ap := ctk_apart C N0 (fun q hq => .tail _ hq) (.head _) d0
  refine k_ctk2 (rest := (782, tabL []) :: (cc, ocK) :: (L' + 1, o0) :: cLed c2 oc) B0 F1 (newsSub N0 ?_) X TT rfl rfl ap C.lt C.hd (.tail _ (.head _)) (fun q hq => .tail _ (.tail _ (.tail _ hq))) C.co (by omega) (by omega) ?_
  · refine List.forall_mem_cons.2 ⟨.tail _ (.head _), List.forall_mem_cons.2 ⟨.tail _ (.tail _ (.head _)), List.forall_mem_cons.2 ⟨.tail _ (.tail _ (.tail _ (.head _))), List.forall_mem_cons.2 ⟨.tail _ (.tail _ (.tail _ (.tail _ (.head _)))), List.forall_mem_cons.2 ⟨.head _, fun q hq => .tail _ (.tail _ (.tail _ (.tail _ (.tail _ hq))))⟩⟩⟩⟩⟩
  intro Z h1 tk1 ez1 ez2 ok1 F2 N2
  subst ez1 ez2
  clear ap N0 F1
  ktr_rel
  unfold Stop
  have hck : (L' + 1, o0) ∈ Z.own w.params ((mg (Str.ofString "__name__")).getD Value.none) (Value.ref 773) ++ [(PP, tabL (kTab w.params Z.c')), (728, tabL [rawInt 725, rawInt 4, Value.ref cc])] ++ (782, tabL []) :: (cc, ocK) :: (L' + 1, o0) :: cLed Z.c' Z.oc :=
    List.mem_append_right _ (.tail _ (.tail _ (.head _)))
  have h8 : (782, tabL []) ∈ Z.own w.params ((mg (Str.ofString "__name__")).getD Value.none) (Value.ref 773) ++ [(PP, tabL (kTab w.params Z.c')), (728, tabL [rawInt 725, rawInt 4, Value.ref cc])] ++ (782, tabL []) :: (cc, ocK) :: (L' + 1, o0) :: cLed Z.c' Z.oc :=
    List.mem_append_right _ (.head _)
  have hZl : ∀ q ∈ Z.led w.params ((mg (Str.ofString "__name__")).getD Value.none) (Value.ref 773), q ∈ Z.own w.params ((mg (Str.ofString "__name__")).getD Value.none) (Value.ref 773) ++ [(PP, tabL (kTab w.params Z.c')), (728, tabL [rawInt 725, rawInt 4, Value.ref cc])] ++ (782, tabL []) :: (cc, ocK) :: (L' + 1, o0) :: cLed Z.c' Z.oc := fun q hq => by
    rcases List.mem_append.mp hq with hq | hq
    · exact List.mem_append_left _ (List.mem_append_left _ hq)
    · exact List.mem_append_right _ (.tail _ (.tail _ (.tail _ hq)))
  have nZ : ∀ q ∈ Z.led w.params ((mg (Str.ofString "__name__")).getD Value.none) (Value.ref 773), q.2.data ≠ .cell none ∧ NT q.2 := fun q hq => by
    rcases List.mem_append.mp hq with hq | hq
    · exact ⟨ncell_own q hq, nt_own q hq⟩
    · exact ⟨ncell_cLed C.co q hq, nt_cLed C.co q hq⟩
  refine store_cell F2 N2 hck d0 ((782, tabL []) :: (728, tabL [rawInt 725, rawInt 4, Value.ref cc]) :: Z.led w.params ((mg (Str.ofString "__name__")).getD Value.none) (Value.ref 773)) ?_ ?_ rfl rfl rfl
  · exact List.forall_mem_cons.2 ⟨⟨h8, cell_apart N2 hck d0 h8 fun h => nomatch h⟩, List.forall_mem_cons.2 ⟨⟨List.mem_append_left _ (List.mem_append_right _ (.tail _ (.head _))), cell_apart N2 hck d0 (List.mem_append_left _ (List.mem_append_right _ (.tail _ (.head _)))) fun h => nomatch h⟩, fun q hq => ⟨hZl q hq, cell_apart N2 hck d0 (hZl q hq) (nZ q hq).1⟩⟩⟩
  clear hck h8 hZl
  intro h2 oK F3 N3 dK
  clear N2 F2
  ktr_rel
  unfold Stop
  refine lam_make F3 N3 T0 (ch786 X0) (.tail _ (.head _)) ((L' + 1, oK) :: (728, tabL [rawInt 725, rawInt 4, Value.ref cc]) :: Z.led w.params ((mg (Str.ofString "__name__")).getD Value.none) (Value.ref 773)) ?_ ?_ rfl rfl
  · exact List.forall_mem_cons.2 ⟨⟨.head _, ne_of_obj N3 (.head _) (.tail _ (.head _)) (nt_cell dK)⟩, List.forall_mem_cons.2 ⟨⟨.tail _ (.tail _ (.head _)), (show (728 : Nat) ≠ 782 by decide)⟩, fun q hq => ⟨.tail _ (.tail _ (.tail _ hq)), ne_of_obj N3 (.tail _ (.tail _ (.tail _ hq))) (.tail _ (.head _)) (nt_tb (nZ q hq).2 tb_nil)⟩⟩⟩
  intro f c' oc' vs tq ctv ps h3 tk3 F4 N4 e1 e2
  clear N3 F3
  ktr_rel
  unfold Stop
  refine k_reduce (Z := Z) (vn := ((mg (Str.ofString "__name__")).getD Value.none)) (.head _) (.tail _ (.head _)) e1 e2 (.tail _ (.tail _ (.tail _ (.head _)))) dK ⟨_, _, _, _, _, _, _, _, _, _, _, _, rfl, rfl, rfl⟩ (fun q hq => .tail _ (.tail _ (.tail _ (.tail _ (.tail _ hq))))) ok1 hT hs hc B0 F4 N4 X TT rfl rfl (by omega) (by omega) ?_ ?_
  · intro b h' tk' hb F5 N5
    exact ret b _ _ hb (kept_of KG F5) ⟨_, (N5 _ (.tail _ (.tail _ (.head _)))).1⟩ ⟨_, (N5 _ (.tail _ (.tail _ (.tail _ (.tail _ (.head _)))))).1⟩
  · intro hb h' tk' e X9
    have D0 : KtsDicts (outs.filterMap (·.frame)) g' := GE ▸ ktsDicts_hide hD fun a ha hf => by
      obtain ⟨x, hx, rfl⟩ := List.mem_map.mp ha
      obtain ⟨env, he, hf'⟩ := List.mem_filterMap.mp hf
      exact (V x hx).2.2 env he hf'
    refine caught_rX (pl := []) X9 rfl B0 F4 N4 (fun _ _ => List.not_mem_nil) D0 X TT (by k_is) ?_ rfl rfl (by passes_own)
    intro h'' g' TT' F5 N5 B5 X5 T5
    ktr_rel
    all_goals (repeat' (first | k_unfold | dsimp only))
    with_reducible rename Fr _ _ _ _ => F5
    with_reducible rename News _ _ _ _ => N5
    exact bad hb _ _ _ (keptT_of KG (fun b hb' => by rw [GE]; exact hideAll_none _ hb') (fun b o q => of_hideAll _ (GE ▸ q)) TT' F5) ⟨_, (N5 _ (.tail _ (.tail _ (.head _)))).1⟩ ⟨_, (N5 _ (.tail _ (.tail _ (.tail _ (.tail _ (.head _)))))).1⟩
end
section
open PySem.W.X PySem.Builtin
set_option autoImplicit false
noncomputable def ElEnd (g : Heap) (L : Addr) (m : Str → Option Value) (s₂ : Shared) (led : List (Addr × Obj)) (El : Value → List (Addr × Obj) → Prop) (y : Value) (s' : Shared) : Prop :=
  ∃ (new : List (Addr × Obj)) (h' : Heap) (tk' : Nat), s' = { s₂ with heap := h', toks := tk' } ∧ Fr g L h' m ∧ News g L h' (new ++ led) ∧ (∀ p ∈ new, p.2.data ≠ .cell none ∧ ∀ q ∈ led, q.1 ≠ p.1) ∧ El y new
theorem ElEnd.none {g h' : Heap} {L : Addr} {m : Str → Option Value} {s₂ : Shared} {tk' : Nat} {led : List (Addr × Obj)} {El : Value → List (Addr × Obj) → Prop} {y : Value} (F : Fr g L h' m) (N : News g L h' led) (h : El y []) : ElEnd g L m s₂ led El y { s₂ with heap := h', toks := tk' } :=
  ⟨[], h', tk', rfl, F, N, (fun _ h => nomatch h), h⟩
section
variable {w : World} {A : Around} {g : Heap} {L : Addr} {m : Str → Option Value} {env : Env}
theorem comp_el {elt : PySem.Expr} {x : Str} {scope : Scope} {cl : List (Str × Addr)} {s₂ : Shared} {S : List (Addr × Obj) → Prop} {P : Nat → Value → Prop} {Fin : List Value → List (Addr × Obj) → Prop} {n : Nat} {Lg : List (Addr × Obj)} (El : Nat → Value → List (Addr × Obj) → Prop)
    (turn : ∀ (j : Nat) (v : Value) (C : Addr) (oC : Obj) (m₂ : Str → Option Value) (h : Heap) (tk : Nat) (E' : Value → Shared → Prop) (led : List (Addr × Obj)), j < n → P j v → LCg.NsObj oC m₂ → m₂ x = some v → Fr g L h m → News g L h led → (C, oC) ∈ led → (∀ q ∈ Lg, q ∈ led) →
      wpAny (model PG w) A (eval elt (compEnvC scope cl C env)) (ElEnd g L m { s₂ with heap := h, toks := tk } led (El j)) E' { s₂ with heap := h, toks := tk })
    (mono : ∀ j y new new', (∀ q ∈ new, q ∈ new') → El j y new → El j y new') (hS : ∀ new, S (new ++ Lg))
    (fin : ∀ ys new, ys.length = n → (∀ q ∈ new, q.2.data ≠ .cell none) → (∀ j y, ys[j]? = some y → El j y new) → Fin ys (new ++ Lg)) :
    LCg.CompRest PG w A g L m env elt x scope cl s₂ S P Fin n 0 [] Lg := by
  suffices key : ∀ (k i : Nat) (ys : List Value) (new : List (Addr × Obj)), i + k = n → ys.length = i → (∀ q ∈ new, q.2.data ≠ .cell none) → (∀ j y, ys[j]? = some y → El j y new) → LCg.CompRest PG w A g L m env elt x scope cl s₂ S P Fin k i ys (new ++ Lg) from
    key n 0 [] [] (Nat.zero_add n) rfl (fun _ h => nomatch h) (fun j y h => by rw [List.getElem?_nil] at h; cases h)
  intro k
  induction k with
  | zero =>
    intro i ys new e1 e2 h1 h2
    exact fin ys new (e2.trans e1) h1 h2
  | succ k ih =>
    intro i ys new e1 e2 h1 h2
    refine LCg.CompRest.succ ?_
    intro v I oI C oC D m₂ h tk E' hP hN hx F N off ne
    have offm := off.mem
    refine wpAny_mono (turn i v C oC m₂ h tk E' _ (Nat.lt_of_lt_of_eq (Nat.lt_add_of_pos_right (Nat.succ_pos k)) e1) hP hN hx F N (.tail _ (.head _)) (fun q hq => .tail _ (.tail _ (.tail _ (List.mem_append_right _ hq))))) (fun y s' hs => ?_) fun _ _ e => e
    obtain ⟨new2, h', tk', rfl, F', N', hfr, hel⟩ := hs
    refine LCg.CompEnd.intro F' N' (new2 ++ new ++ Lg) ?_ (LCg.Off3.of ?_) (hS _) ?_
    · intro q hq
      rcases List.mem_cons.mp hq with rfl | hq
      · exact List.mem_append_right _ (.head _)
      · rcases List.mem_cons.mp hq with rfl | hq
        · exact List.mem_append_right _ (.tail _ (.head _))
        · rcases List.mem_cons.mp hq with rfl | hq
          · exact List.mem_append_right _ (.tail _ (.tail _ (.head _)))
          · rcases List.mem_append.mp hq with hq | hq
            · rcases List.mem_append.mp hq with hq | hq
              · exact List.mem_append_left _ hq
              · exact List.mem_append_right _ (.tail _ (.tail _ (.tail _ (List.mem_append_left _ hq))))
            · exact List.mem_append_right _ (.tail _ (.tail _ (.tail _ (List.mem_append_right _ hq))))
    · intro p hp
      rcases List.mem_append.mp hp with hp | hp
      · rcases List.mem_append.mp hp with hp | hp
        · have f := (hfr p hp).2
          exact ⟨fun e => f (I, oI) (.head _) e.symm, fun e => f (C, oC) (.tail _ (.head _)) e.symm, fun e => f (D, LCg.lst ys) (.tail _ (.tail _ (.head _))) e.symm⟩
        · exact offm p (List.mem_append_left _ hp)
      · exact offm p (List.mem_append_right _ hp)
    · refine ih (i + 1) (ys ++ [y]) (new2 ++ new) ((Nat.succ_add_eq_add_succ i k).trans e1) (by rw [List.length_append, e2]; rfl) (fun q hq => ?_) (fun j y' hj => ?_)
      · rcases List.mem_append.mp hq with hq | hq
        · exact (hfr q hq).1
        · exact h1 q hq
      · rcases Nat.lt_trichotomy j ys.length with hl | rfl | hl
        · rw [List.getElem?_append_left hl] at hj
          exact mono j y' new _ (fun q hq => List.mem_append_right _ hq) (h2 j y' hj)
        · rw [List.getElem?_append_right (Nat.le_refl _), Nat.sub_self] at hj
          cases hj
          exact mono _ _ new2 _ (fun q hq => List.mem_append_left _ hq) (e2 ▸ hel)
        · rw [List.getElem?_eq_none (by rw [List.length_append]; exact hl)] at hj
          cases hj
end
theorem back_new {g h h' : Heap} {L l : Addr} {o : Obj} {m : Str → Option Value} {led : List (Addr × Obj)} (F : Fr g L h m) (N : News g L h led) (k : Kept [] h h') (hl : h'.get? l = some o) (hn : h.get? l = none) :
    Fr g L h' m ∧ News g L h' ([(l, o)] ++ led) ∧ ∀ q ∈ led, q.1 ≠ l := by
  obtain ⟨F', N'⟩ := back (pre := []) (post := [(l, o)]) F N (fun _ h => nomatch h) (fun x hx => ⟨hx, List.not_mem_nil⟩) k (fun x hx => by rw [List.mem_singleton.mp hx]; exact hl) (fun x hx => by rw [List.mem_singleton.mp hx]; exact .inr hn)
  exact ⟨F', N', fun q hq e => by rw [← e, (N q hq).1] at hn; cases hn⟩
theorem back_T {g h h' : Heap} {L : Addr} {m : Str → Option Value} {led : List (Addr × Obj)} {env : Env} {as : List Addr} (hf : env.frame = some L) (F : Fr g L h m) (N : News g L h led) (k : KeptT [env] as h h') (has : ∀ b ∈ as, g.get? b = none ∧ b ≠ L) (rest : List (Addr × Obj)) (hr : ∀ q ∈ rest, q ∈ led ∧ q.1 ∉ as) : Fr g L h' m ∧ News g L h' rest := by
  have el : [env].filterMap (·.frame) = [L] := by simp [hf]
  obtain ⟨k1, k2⟩ := k
  rw [el] at k1
  refine ⟨⟨k2.ns ?_, fun b o e => k1 b o (F.keep b o e) (fun hb => by rw [(has b hb).1] at e; cases e) (fun hb => by rw [List.mem_singleton.mp hb, kts_self F] at e; cases e), F.above⟩, fun q hq => ⟨k1 _ _ (N q (hr q hq).1).1 (hr q hq).2 fun hb => (N q (hr q hq).1).2.1 (List.mem_singleton.mp hb), (N q (hr q hq).1).2⟩⟩
  obtain ⟨oL, es, ep, hL, r⟩ := F.ns
  exact ⟨oL, es, ep, hideAll_get _ hL fun hb => (has L hb).2 rfl, r⟩
theorem ktsDicts_one {g h : Heap} {L : Addr} {m : Str → Option Value} {env : Env} (hf : env.frame = some L) (F : Fr g L h m) : KtsDicts ([env].filterMap (·.frame)) h := fun b hb => by
  have el : [env].filterMap (·.frame) = [L] := by simp [hf]
  rw [el] at hb
  rw [List.mem_singleton.mp hb]
  obtain ⟨oL, es, ep, hL, hd, _⟩ := F.ns
  exact ⟨oL, es, ep, hL, hd⟩
noncomputable abbrev lo (vs : List Value) : Obj := { cls := .type "list", data := .seq vs.toArray }
noncomputable def AskV (way : Int) (r : Option Int) (y : Value) (new : List (Addr × Obj)) : Prop :=
  (r = none ∧ ∃ t, y = .str (Str.ofString "refused") t) ∨ ∃ n l, r = some n ∧ y = .ref l ∧ (l, lo (askV way n)) ∈ new
theorem AskV.mono {way : Int} {r : Option Int} {y : Value} {new new' : List (Addr × Obj)} (h : AskV way r y new) (s : ∀ q ∈ new, q ∈ new') : AskV way r y new' := by
  rcases h with h | ⟨n, l, a, b, c⟩
  · exact .inl h
  · exact .inr ⟨n, l, a, b, s _ c⟩
section
variable {w : World} {p : Program} {loose : List Str} {mean : ExcName → Option Value} {mg mb : Str → Option Value} {dp un : Nat} {gd : Option (List Code)} {base g : Heap} {L : Addr} {m : Str → Option Value} {env : Env} {s : Shared} {Q : Value → Shared → Prop} {E : Value → Shared → Prop} {led : List (Addr × Obj)}
theorem k_keyN {u : Value} {Z : KCls} {outs : List Env} {vn v : Value} (hZ : ∀ q ∈ Z.led w.params vn v, q ∈ led) (hok : Z.Ok w.params)
    (B : Below (ar dp un gd outs) base outs g) (F : Fr g L s.heap m) (N : News g L s.heap led) (TT : Top p loose mean mg mb base)
    (hf : env.frame = some L) (hkd : env.scope.kind = .function) (hdp : dp + 8 < recursionLimit)
    (q : ∀ x dx h' tk', Fr g L h' m → News g L h' ([(x, kInst Z.a dx u), (dx, emptyDict)] ++ led) → (∀ q ∈ led, q.1 ≠ x ∧ q.1 ≠ dx) → Q (.ref x) { s with heap := h', toks := tk' }) :
    wpAny (model PG w) ((ar dp un gd outs).deeper env) (call (.ref Z.a) [u]) Q E s := by
  have S := stand_led N hZ
  refine call_by fun R ok er => c_key (dp := dp + 1) (un := un + 3) (outs := env :: outs) (KCls.kk S) (KCls.kin S) (KCls.code hok S (by omega)) (pushX B F hf hkd) TT (by omega) ?_
  intro x dx h' tk' kk h1 h2 n1 n2
  obtain ⟨F', N'⟩ := back (pre := []) (post := [(x, kInst Z.a dx u), (dx, emptyDict)]) F N (fun _ h => nomatch h) (fun x hx => ⟨hx, List.not_mem_nil⟩) (fun b o e _ => kk b o e)
    (List.forall_mem_cons.2 ⟨h1, List.forall_mem_cons.2 ⟨h2, fun _ h => nomatch h⟩⟩) (List.forall_mem_cons.2 ⟨.inr n1, List.forall_mem_cons.2 ⟨.inr n2, fun _ h => nomatch h⟩⟩)
  exact ok _ _ (q x dx h' tk' F' N' fun q hq => ⟨(fun e => by rw [← e, (N q hq).1] at n1; cases n1), (fun e => by rw [← e, (N q hq).1] at n2; cases n2)⟩)
theorem k_askKN {vn : Value} {Z : KCls} {x y : Addr} {r : Option Int} {way : Int} {tw : Tok} (C : KeysC w.params vn Z led x y r) (hway : way = 0 ∨ way = 1)
    (B : Below (ar dp un gd []) base [] g) (F : Fr g L s.heap m) (N : News g L s.heap led) (X : (pre.heap_1 w.params).In base) (TT : Top p loose mean mg mb base)
    (hf : env.frame = some L) (hk : env.scope.kind = .function) (hdp : dp + 42 < recursionLimit) (hu : un + 205 < cLine)
    (q : ∀ v new h' tk', AskV way r v new → (∀ p ∈ new, p.2.data ≠ .cell none ∧ ∀ q ∈ led, q.1 ≠ p.1) → Fr g L h' m → News g L h' (new ++ led) → Q v { s with heap := h', toks := tk' }) :
    wpAny (model PG w) ((ar dp un gd []).deeper env) (call (.ref 780) [.ref x, .ref y, .int way tw]) Q E s := by
  refine call_by fun R ok er => c_askK (dp := dp + 1) (un := un + 3) (outs := [env]) C hway (ktsDicts_one hf F) (pushX B F hf hk) X TT (free_of B F N hf fun _ h => h) (by omega) (by omega) ?_ ?_
  · intro n h' tk' l e kk hl hn
    obtain ⟨F', N', fr⟩ := back_new F N kk hl hn
    exact ok _ _ (q _ [(l, lo (askV way n))] h' tk' (.inr ⟨n, l, e, rfl, .head _⟩) (List.forall_mem_cons.2 ⟨⟨(fun h => nomatch h), fr⟩, fun _ h => nomatch h⟩) F' N')
  · intro e h' tk' tk2 kk
    obtain ⟨F', N'⟩ := back_T hf F N kk (fun _ h => nomatch h) led fun q hq => ⟨hq, List.not_mem_nil⟩
    exact ok _ _ (q _ [] h' tk' (.inl ⟨e, tk2, rfl⟩) (fun _ h => nomatch h) F' N')
theorem k_askIN {n way : Int} {tn tz tw : Tok} (hway : way = 0 ∨ way = 1)
    (B : Below (ar dp un gd []) base [] g) (F : Fr g L s.heap m) (N : News g L s.heap led) (X : (pre.heap_1 w.params).In base) (TT : Top p loose mean mg mb base)
    (hf : env.frame = some L) (hk : env.scope.kind = .function) (hdp : dp + 42 < recursionLimit) (hu : un + 205 < cLine)
    (q : ∀ v new h' tk', AskV way (some n) v new → (∀ p ∈ new, p.2.data ≠ .cell none ∧ ∀ q ∈ led, q.1 ≠ p.1) → Fr g L h' m → News g L h' (new ++ led) → Q v { s with heap := h', toks := tk' }) :
    wpAny (model PG w) ((ar dp un gd []).deeper env) (call (.ref 780) [.int n tn, .int 0 tz, .int way tw]) Q E s := by
  refine call_by fun R ok er => c_askI (dp := dp + 1) (un := un + 3) (outs := [env]) hway (pushX B F hf hk) X TT (free_of B F N hf fun _ h => nomatch h) (by omega) (by omega) ?_
  intro h' tk' l kk hl hn
  obtain ⟨F', N', fr⟩ := back_new F N kk hl hn
  exact ok _ _ (q _ [(l, lo (askV way n))] h' tk' (.inr ⟨n, l, rfl, rfl, .head _⟩) (List.forall_mem_cons.2 ⟨⟨(fun h => nomatch h), fr⟩, fun _ h => nomatch h⟩) F' N')
theorem k_first {outs : List Env} {rows torn : Addr} {ra : Nat → Addr} {rk : Nat → List Nat} {tn : Nat → Bool} (D : RowsS s.heap rows torn ra rk tn)
    (B : Below (ar dp un gd outs) base outs g) (F : Fr g L s.heap m) (N : News g L s.heap led) (X : (pre.heap_1 w.params).In base) (TT : Top p loose mean mg mb base)
    (hf : env.frame = some L) (hk : env.scope.kind = .function) (hdp : dp + 47 < recursionLimit) (hu : un + 220 < cLine)
    (q : ∀ v h' tk' tk2, v = firstV (fun a b => due (rk a) (tn a) (rk b) (tn b)) → Fr g L h' m → News g L h' led → Q (.int v tk2) { s with heap := h', toks := tk' }) :
    wpAny (model PG w) ((ar dp un gd outs).deeper env) (call (.ref 801) [.ref rows, .ref torn]) Q E s := by
  refine call_by fun R ok er => c_first (dp := dp + 1) (un := un + 3) (outs := env :: outs) (pushX B F hf hk) X TT (free_of B F N hf fun _ h => nomatch h) (by omega) (by omega) D ?_
  intro v h' tk' tk2 e kk
  exact ok _ _ (q v h' tk' tk2 e (back0 F N kk).1 (back0 F N kk).2)
theorem k_drawn {outs : List Env} {sc : Addr} {vs : List Value} {ns : List Int} (hsc : s.heap.IsList sc vs.toArray) (hv : IntsAre vs ns) (hlen : ns.length ≤ 63)
    (B : Below (ar dp un gd outs) base outs g) (F : Fr g L s.heap m) (N : News g L s.heap led) (X : (pre.heap_1 w.params).In base) (TT : Top p loose mean mg mb base)
    (hf : env.frame = some L) (hk : env.scope.kind = .function) (hdp : dp + 52 < recursionLimit) (hu : un + 235 < cLine)
    (q : ∀ (D lt le rl : Addr) (ra : Nat → Addr) (RV : Nat → List Value) (re : Nat → Nat) (T : Nat → Str) (tt : Nat → Tok) (b : Nat → Bool) (d : DS) h' tk', Drawn d RV T b → Fr g L h' m → News g L h' (drRes D lt le rl ra RV re T tt b ++ led) → (∀ p ∈ drRes D lt le rl ra RV re T tt b, ∀ q ∈ led, q.1 ≠ p.1) → Q (.ref D) { s with heap := h', toks := tk' }) :
    wpAny (model PG w) ((ar dp un gd outs).deeper env) (call (.ref 752) [.ref sc]) Q E s := by
  refine call_by fun R ok er => c_drawn (dp := dp + 1) (un := un + 3) (outs := env :: outs) (pushX B F hf hk) X TT (free_of B F N hf fun _ h => nomatch h) (by omega) (by omega) hsc hv hlen ?_
  intro D lt le rl ra RV re T tt b d h' tk' hd kk hall hn
  obtain ⟨F', N'⟩ := back (pre := []) (post := drRes D lt le rl ra RV re T tt b) F N (fun _ h => nomatch h) (fun x hx => ⟨hx, List.not_mem_nil⟩) kk hall (fun x hx => .inr (hn x hx))
  exact ok _ _ (q D lt le rl ra RV re T tt b d h' tk' hd F' N' fun p hp q hq e => by have := hn p hp; rw [← e, (N q hq).1] at this; cases this)
theorem ctk_nl {P : Params} {h : Heap} {its : Array Value} {sq : Addr} {c2 : Nat → Addr} {oc : Nat → Obj} {cc : Addr} {ocK : Obj} {PP : Addr} {n : Nat} (C : Ctk P c2 oc cc ocK PP) (N : News g L h led) (hl : ∀ q ∈ ctkL P c2 oc cc ocK PP, q ∈ led) (hs : (sq, ({ cls := .type "list", data := .seq its n } : Obj)) ∈ led) : sq ∉ (ctkL P c2 oc cc ocK PP).map (·.1) := by
  intro hm
  obtain ⟨x, hx, e⟩ := List.mem_map.mp hm
  have h1 := (N _ (hl x hx)).1
  rw [e, (N _ hs).1] at h1
  have h1 := Option.some.inj h1
  have f : ∀ {o : Obj} (v : Array Value), o.data = .fields v → o ≠ { cls := .type "list", data := .seq its n } := fun v h e => by rw [e] at h; cases h
  rcases List.mem_cons.mp hx with rfl | hx
  · exact f _ rfl h1.symm
  · rcases List.mem_cons.mp hx with rfl | hx
    · exact f _ rfl h1.symm
    · rcases List.mem_cons.mp hx with rfl | hx
      · exact f _ rfl h1.symm
      · rcases List.mem_cons.mp hx with rfl | hx
        · obtain ⟨o, vs, file, tf, flags, tg, inF, text, tt, e1, e2, e3, _⟩ := C.hd h (N _ (hl _ (.tail _ (.tail _ (.tail _ (.head _)))))).1
          have e4 := (N _ (hl _ (.tail _ (.tail _ (.tail _ (.head _)))))).1
          rw [e1] at e4
          cases e4
          exact f _ e3 h1.symm
        · have nc : ∀ q ∈ cLed c2 oc, ∃ v : Array Value, q.2.data = .fields v := by
            have ff : ∀ {o : Obj} {q : Str}, CodeOf o q → ∃ v : Array Value, o.data = .fields v := fun ⟨vs, t, a, _⟩ => ⟨vs, a⟩
            refine List.forall_mem_cons.2 ⟨ff (C.co 0 (by decide)), ?_⟩
            refine List.forall_mem_cons.2 ⟨ff (C.co 1 (by decide)), ?_⟩
            refine List.forall_mem_cons.2 ⟨ff (C.co 2 (by decide)), ?_⟩
            refine List.forall_mem_cons.2 ⟨ff (C.co 3 (by decide)), ?_⟩
            refine List.forall_mem_cons.2 ⟨ff (C.co 4 (by decide)), ?_⟩
            refine List.forall_mem_cons.2 ⟨ff (C.co 5 (by decide)), ?_⟩
            exact fun _ h => nomatch h
          obtain ⟨v, hv⟩ := nc x hx
          exact f _ hv h1.symm
theorem k_least {sq : Addr} {l ks : Nat → List Nat} {tn : Nat → Bool} {t : Nat → Tok} {c : Nat → Nat → Option Int} {c2 : Nat → Addr} {oc : Nat → Obj} {cc : Addr} {ocK : Obj} {PP : Addr} (C : Ctk w.params c2 oc cc ocK PP)
    (hT : ∀ i, i < 4 → (l i).length < 400000 ∧ Reads (l i) (ks i) (tn i)) {n : Nat} (hs : (sq, ({ cls := .type "list", data := .seq (tx4 l t) n } : Obj)) ∈ led) (hc : ∀ a b, c a b = cmpR (ks a) (tn a) (ks b) (tn b))
    (B : Below (ar dp un gd []) base [] g) (F : Fr g L s.heap m) (N : News g L s.heap led) (X : (pre.heap_1 w.params).In base) (TT : Top p loose mean mg mb base)
    (hf : env.frame = some L) (hk : env.scope.kind = .function) (hdp : dp + 62 < recursionLimit) (hu : un + 215 < cLine) (hl : ∀ q ∈ ctkL w.params c2 oc cc ocK PP, q ∈ led)
    (rest : List (Addr × Obj)) (hr : ∀ q ∈ rest, q ∈ led ∧ q.1 ∉ (ctkL w.params c2 oc cc ocK PP).map (·.1))
    (q : ∀ v h' tk' p1 p2, (redV c 3 = none ∧ ∃ t, v = .str (Str.ofString "refused") t) ∨ (∃ b, redV c 3 = some b ∧ v = .str (tx (l b)) (t b)) → Fr g L h' m → News g L h' ((782, tabObj p1) :: (728, tabObj p2) :: rest) → Q v { s with heap := h', toks := tk' }) :
    wpAny (model PG w) ((ar dp un gd []).deeper env) (call (.ref 787) [.ref sq]) Q E s := by
  have V := free_of B F N hf hl
  have BX := pushX B F hf hk
  have W1 := base_widest BX V
  have W2 := below_widest (as := (ctkL w.params c2 oc cc ocK PP).map (·.1)) BX
  have W3 := free_widest (base := base) V
  have nl := ctk_nl C N hl hs
  have hsW : (widest s.heap [env] ((ctkL w.params c2 oc cc ocK PP).map (·.1))).IsList sq (tx4 l t) := ⟨_, widest_in (N _ hs).1 nl (free_of B F N hf (fun x h => h) _ hs).2.2, rfl, n, rfl⟩
  refine call_by fun R ok er => c_least (dp := dp + 1) (un := un + 3) (outs := [env]) C hT hsW hc (ktsDicts_one hf F) W2 (X.keeps W1) (TT.keeps W1) W3 (by omega) (by omega) ?_ ?_
  · rintro b h' tk' hb kk ⟨p1, g1⟩ ⟨p2, g2⟩
    obtain ⟨F', N'⟩ := back (pre := ctkL w.params c2 oc cc ocK PP) (post := [(782, tabObj p1), (728, tabObj p2)]) F N hl hr kk (List.forall_mem_cons.2 ⟨g1, List.forall_mem_cons.2 ⟨g2, fun _ h => nomatch h⟩⟩) (List.forall_mem_cons.2 ⟨.inl (.tail _ (.tail _ (.head _))), List.forall_mem_cons.2 ⟨.inl (.tail _ (.head _)), fun _ h => nomatch h⟩⟩)
    exact ok _ _ (q _ h' tk' p1 p2 (.inr ⟨b, hb, rfl⟩) F' N')
  · rintro hb h' tk' tk2 kk ⟨p1, g1⟩ ⟨p2, g2⟩
    obtain ⟨F', N'⟩ := back_T hf F N kk (fun b hb => by
      obtain ⟨x, hx, rfl⟩ := List.mem_map.mp hb
      exact ⟨(N x (hl x hx)).2.2, (N x (hl x hx)).2.1⟩) rest hr
    have n8 := N _ (hl _ (.tail _ (.tail _ (.head _))))
    have n7 := N _ (hl _ (.tail _ (.head _)))
    exact ok _ _ (q _ h' tk' p1 p2 (.inl ⟨hb, tk2, rfl⟩) F' (List.forall_mem_cons.2 ⟨⟨g1, n8.2⟩, List.forall_mem_cons.2 ⟨⟨g2, n7.2⟩, N'⟩⟩))
end
end
section
open PySem.W.X PySem.Builtin
set_option autoImplicit false
section
variable {M : Model} {A : Around} {E : Value → Shared → Prop} {s : Shared} {g : Heap} {L a c : Addr} {m : Str → Option Value} {cn : Str} {cs : Scope} {ccd : Value} {cl : List (Str × Addr)} {x : Str} {v : Value} {led : List (Addr × Obj)} {o : Obj}
theorem store_c5 {Q : Unit → Shared → Prop} (F : Fr g L s.heap m) (N : News g L s.heap led) (hd : o.data = .cell none) (hm : (c, o) ∈ led) (q1 q2 q3 q4 q5 : Addr × Obj) (T : List (Addr × Obj))
    (hs : q1 ∈ led ∧ q2 ∈ led ∧ q3 ∈ led ∧ q4 ∈ led ∧ q5 ∈ led) (hn : @Ne Nat q1.1 c ∧ @Ne Nat q2.1 c ∧ @Ne Nat q3.1 c ∧ @Ne Nat q4.1 c ∧ @Ne Nat q5.1 c) (hT : ∀ q ∈ T, q ∈ led) (nc : ∀ q ∈ T, q.2.data ≠ .cell none)
    (h : ∀ h' o', Fr g L h' m → News g L h' ((c, o') :: q1 :: q2 :: q3 :: q4 :: q5 :: T) → o'.data = .cell (some v) → Q () { s with heap := h' })
    (hc : (envX cn cs L a ccd cl).cells.lookup x = some c) (hk : cs.kind = .function) (hx : (envX cn cs L a ccd cl).kindOf x = some .cell) : wpAny M A (storeName (envX cn cs L a ccd cl) x v) Q E s := by
  obtain ⟨s1, s2, s3, s4, s5⟩ := hs
  obtain ⟨n1, n2, n3, n4, n5⟩ := hn
  refine store_cell F N hm hd (q1 :: q2 :: q3 :: q4 :: q5 :: T) ?_ h hc hk hx
  exact List.forall_mem_cons.2 ⟨⟨s1, n1⟩, List.forall_mem_cons.2 ⟨⟨s2, n2⟩, List.forall_mem_cons.2 ⟨⟨s3, n3⟩, List.forall_mem_cons.2 ⟨⟨s4, n4⟩, List.forall_mem_cons.2 ⟨⟨s5, n5⟩, fun q hq => ⟨hT q hq, cell_apart N hm hd (hT q hq) (nc q hq)⟩⟩⟩⟩⟩⟩
end
structure LawT (rl tl bl : Addr) (ra : Nat → Addr) (RV : Nat → List Value) (re : Nat → Nat) (l : Nat → List Nat) (tt : Nat → Tok) (b : Nat → Bool) (T : List (Addr × Obj)) : Prop where
  rl_ : (rl, W.listOf #[.ref (ra 0), .ref (ra 1), .ref (ra 2), .ref (ra 3)] 0) ∈ T
  tl_ : (tl, LCg.lst [.str (tx (l 0)) (tt 0), .str (tx (l 1)) (tt 1), .str (tx (l 2)) (tt 2), .str (tx (l 3)) (tt 3)]) ∈ T
  bl_ : (bl, LCg.lst [.bool (b 0), .bool (b 1), .bool (b 2), .bool (b 3)]) ∈ T
  ra_ : ∀ i, i < 4 → (ra i, W.listOf (RV i).toArray (re i)) ∈ T
theorem LawT.more {rl tl bl : Addr} {ra : Nat → Addr} {RV : Nat → List Value} {re : Nat → Nat} {l : Nat → List Nat} {tt : Nat → Tok} {b : Nat → Bool} {T T' : List (Addr × Obj)} (H : LawT rl tl bl ra RV re l tt b T) (s : ∀ q ∈ T, q ∈ T') : LawT rl tl bl ra RV re l tt b T' :=
  ⟨s _ H.rl_, s _ H.tl_, s _ H.bl_, fun i hi => s _ (H.ra_ i hi)⟩
theorem LawT.rows {rl tl bl : Addr} {ra : Nat → Addr} {RV : Nat → List Value} {re : Nat → Nat} {l : Nat → List Nat} {tt : Nat → Tok} {b : Nat → Bool} {T led : List (Addr × Obj)} {g h : Heap} {L : Addr} {rk : Nat → List Nat} (H : LawT rl tl bl ra RV re l tt b T) (N : News g L h led) (s : ∀ q ∈ T, q ∈ led)
    (hr : ∀ i, IntsAre (RV i) ((rk i).map Int.ofNat)) (hl : ∀ i, (rk i).length ≤ 100) : RowsS h rl bl ra rk b :=
  ⟨⟨_, (N _ (s _ H.rl_)).1, rfl, _, rfl⟩, ⟨_, (N _ (s _ H.bl_)).1, rfl, _, rfl⟩, fun i hi => ⟨_, ⟨_, (N _ (s _ (H.ra_ i hi))).1, rfl, _, rfl⟩, hr i⟩, fun i _ => hl i⟩
structure LawZ (P : Params) (vn : Value) (Z : KCls) (cc : Addr) (ocK : Obj) (PP : Addr) (T : List (Addr × Obj)) : Prop where
  z : ∀ q ∈ Z.led P vn (.ref 773), q ∈ T
  ok : Z.Ok P
  ck : Ctk P Z.c' Z.oc cc ocK PP
  kl : ∀ q ∈ ctkL P Z.c' Z.oc cc ocK PP, q ∈ T
theorem LawZ.more {P : Params} {vn : Value} {Z : KCls} {cc : Addr} {ocK : Obj} {PP : Addr} {T T' : List (Addr × Obj)} (H : LawZ P vn Z cc ocK PP T) (s : ∀ q ∈ T, q ∈ T') : LawZ P vn Z cc ocK PP T' :=
  ⟨fun q hq => s q (H.z q hq), H.ok, H.ck, fun q hq => s q (H.kl q hq)⟩
noncomputable def rowL (d : DS) (a : Nat) : List Nat := (d.pcs a).flatMap Pc.text ++ endText (d.en a)
noncomputable def rowK (d : DS) (a : Nat) : List Nat := (d.pcs a).map Pc.k
theorem Drawn.texts {d : DS} {RV : Nat → List Value} {T : Nat → Str} {b : Nat → Bool} (H : Drawn d RV T b) (i : Nat) : (rowL d i).length < 400000 ∧ Reads (rowL d i) (rowK d i) (b i) := by
  constructor
  · have e1 := text_len _ (H.ok i)
    have e2 := end_len _ (H.eok i)
    have e3 := H.len i
    show ((d.pcs i).flatMap Pc.text ++ endText (d.en i)).length < 400000
    rw [List.length_append]
    exact Nat.lt_of_le_of_lt (Nat.add_le_add (Nat.le_trans e1 (Nat.mul_le_mul_left 13 e3)) e2) (Nat.le_of_ble_eq_true rfl)
  · rw [H.b_ i]
    exact reads_text _ _ (H.ok i) (H.eok i)
theorem Drawn.ints {d : DS} {RV : Nat → List Value} {T : Nat → Str} {b : Nat → Bool} (H : Drawn d RV T b) (i : Nat) : IntsAre (RV i) ((rowK d i).map Int.ofNat) := by
  have := H.rv i
  unfold rowK
  rw [List.map_map]
  exact this
theorem Drawn.lens {d : DS} {RV : Nat → List Value} {T : Nat → Str} {b : Nat → Bool} (H : Drawn d RV T b) (i : Nat) : (rowK d i).length ≤ 100 := by
  have := H.len i
  unfold rowK
  rw [List.length_map]
  exact Nat.le_trans this (Nat.le_of_ble_eq_true rfl)
noncomputable def prv (j : Nat) : Nat := if j = 0 then 3 else j - 1
theorem idx_prv {j : Nat} (hj : j < 4) : Idx (0 + (j : Int) - 1) (prv j) := by
  cases j with
  | zero => exact ⟨by decide, .inr rfl⟩
  | succ k => exact ⟨Nat.lt_of_succ_lt hj, .inl (by rw [Int.zero_add]; exact Int.add_sub_cancel (k : Int) 1)⟩
theorem idx_at {j : Nat} (hj : j < 4) : Idx (0 + (j : Int)) j := ⟨hj, .inl (Int.zero_add _)⟩
noncomputable def wayI (n : Nat) (j : Nat) : Int := (0 + (j : Int) + (n : Int)).fmod 2
theorem way01 (n j : Nat) : wayI n j = 0 ∨ wayI n j = 1 := by
  unfold wayI
  rw [Int.fmod_eq_emod_of_nonneg _ (by decide)]
  exact Int.emod_two_eq _
theorem len_s {α : Type} {ys : List α} {n : Nat} (h : ys.length = n + 1) : ∃ a r, ys = a :: r ∧ r.length = n := by
  cases ys with
  | nil => cases h
  | cons a r => exact ⟨a, r, rfl, Nat.succ.inj h⟩
theorem len4 {α : Type} {ys : List α} (h : ys.length = 4) : ∃ a b c d, ys = [a, b, c, d] := by
  obtain ⟨a, r1, e1, h1⟩ := len_s h
  obtain ⟨b, r2, e2, h2⟩ := len_s h1
  obtain ⟨c, r3, e3, h3⟩ := len_s h2
  obtain ⟨d, r4, e4, h4⟩ := len_s h3
  exact ⟨a, b, c, d, by rw [e1, e2, e3, e4, List.eq_nil_of_length_eq_zero h4]⟩
theorem getD4 {y0 y1 y2 y3 d : Value} {a : Nat} (ha : a < 4) : [y0, y1, y2, y3][a]? = some ([y0, y1, y2, y3].getD a d) := by
  rcases a with _ | _ | _ | _ | a
  · rfl
  · rfl
  · rfl
  · rfl
  · exact (no4 ha).elim
theorem four_at {w : World} {A : Around} {E : Value → Shared → Prop} {s : Shared} {g : Heap} {L q : Addr} {Q : Value → Shared → Prop} {led : List (Addr × Obj)} {ys : List Value} {i : Int} {a : Nat} {t : Tok} {value slice : PySem.Expr} {n : Nat}
    (N : News g L s.heap led) (hq : (q, ({ cls := .type "list", data := .seq ys.toArray n } : Obj)) ∈ led) (hl : ys.length = 4) (hi : Idx i a) (h : ∀ y, ys[a]? = some y → Q y s)
    (hs : subscripted slice false (.ref q) (.int i t) = operate [.ref q, .int i t] (getItem (.ref q) (.int i t)) := by with_unfolding_all rfl) : wpAny (model PG w) A (subscriptTail value slice (.ref q) (.int i t)) Q E s := by
  obtain ⟨y0, y1, y2, y3, rfl⟩ := len4 hl
  exact pick4 (u := fun a => [y0, y1, y2, y3].getD a .none) (a := a) ⟨_, (N _ hq).1, rfl, _, rfl⟩ hi (h _ (getD4 hi.1)) hs
noncomputable def askD (way : Int) : Option Int → PyData
  | none => .str (Str.ofString "refused")
  | some n => .list (if way = 0 then [.bool (decide (n < 0)), .bool (n == 0), .bool (decide (n ≥ 0))] else [.bool (decide (n ≤ 0)), .bool (!(n == 0)), .bool (decide (n > 0))])
theorem AskV.reads {g h : Heap} {L : Addr} {led new : List (Addr × Obj)} {way : Int} {r : Option Int} {y : Value} (H : AskV way r y new) (N : News g L h led) (s : ∀ q ∈ new, q ∈ led) : ∃ as, PySem.Reads h y (askD way r) as := by
  rcases H with ⟨rfl, t, rfl⟩ | ⟨n, l, rfl, rfl, hm⟩
  · exact ⟨_, .str _ _⟩
  · refine ⟨[l], reads_list_at (as := []) (N _ (s _ hm)).1 rfl rfl ?_⟩
    unfold askV
    by_cases hw : way = 0
    · rw [if_pos hw, if_pos hw]
      exact .cons (as := []) (bs := []) (.bool _) (.cons (as := []) (bs := []) (.bool _) (.cons (as := []) (bs := []) (.bool _) .nil))
    · rw [if_neg hw, if_neg hw]
      exact .cons (as := []) (bs := []) (.bool _) (.cons (as := []) (bs := []) (.bool _) (.cons (as := []) (bs := []) (.bool _) .nil))
theorem ask_reads {h g : Heap} {L q : Addr} {led new : List (Addr × Obj)} {ys : List Value} {n : Nat} {way : Nat → Int} {r : Nat → Option Int} (N : News g L h led) (hq : (q, ({ cls := .type "list", data := .seq ys.toArray n } : Obj)) ∈ led) (hl : ys.length = 4)
    (ha : ∀ j y, ys[j]? = some y → AskV (way j) (r j) y new) (hs : ∀ q ∈ new, q ∈ led) : ∃ as, PySem.Reads h (.ref q) (.list [askD (way 0) (r 0), askD (way 1) (r 1), askD (way 2) (r 2), askD (way 3) (r 3)]) as := by
  obtain ⟨z0, z1, z2, z3, rfl⟩ := len4 hl
  obtain ⟨b0, e0⟩ := (ha 0 z0 rfl).reads N hs
  obtain ⟨b1, e1⟩ := (ha 1 z1 rfl).reads N hs
  obtain ⟨b2, e2⟩ := (ha 2 z2 rfl).reads N hs
  obtain ⟨b3, e3⟩ := (ha 3 z3 rfl).reads N hs
  exact ⟨_, reads_list_at (N _ hq).1 rfl rfl (.cons e0 (.cons e1 (.cons e2 (.cons e3 .nil))))⟩
theorem ask_three (b0 b1 b2 : Bool) : PyData.canLay0 (.list [.bool b0, .bool b1, .bool b2]) = true ∧ PyData.depth (.list [.bool b0, .bool b1, .bool b2]) ≤ 1 ∧ PyData.eqv (.list [.bool b0, .bool b1, .bool b2]) (.list [.bool b0, .bool b1, .bool b2]) = true :=
  ⟨rfl, by simp [PyData.depth, PyData.depthAll], by simp [PyData.eqv, PyData.eqvAll]⟩
theorem ask_one (w : Int) (r : Option Int) : PyData.canLay0 (askD w r) = true ∧ PyData.depth (askD w r) ≤ 1 ∧ PyData.eqv (askD w r) (askD w r) = true := by
  cases r with
  | none => exact ⟨(show PyData.strOk (Str.ofString "refused") = true by decide +kernel), by simp [askD, PyData.depth], by simp [askD, PyData.eqv]⟩
  | some n =>
    by_cases hw : w = 0
    · have : askD w (some n) = .list [.bool (decide (n < 0)), .bool (n == 0), .bool (decide (n ≥ 0))] := by show PyData.list (if w = 0 then _ else _) = _; rw [if_pos hw]
      rw [this]; exact ask_three _ _ _
    · have : askD w (some n) = .list [.bool (decide (n ≤ 0)), .bool (!(n == 0)), .bool (decide (n > 0))] := by show PyData.list (if w = 0 then _ else _) = _; rw [if_neg hw]
      rw [this]; exact ask_three _ _ _
theorem ask_shape {d0 d1 d2 d3 : PyData} (h0 : PyData.canLay0 d0 = true ∧ PyData.depth d0 ≤ 1 ∧ PyData.eqv d0 d0 = true) (h1 : PyData.canLay0 d1 = true ∧ PyData.depth d1 ≤ 1 ∧ PyData.eqv d1 d1 = true) (h2 : PyData.canLay0 d2 = true ∧ PyData.depth d2 ≤ 1 ∧ PyData.eqv d2 d2 = true)
    (h3 : PyData.canLay0 d3 = true ∧ PyData.depth d3 ≤ 1 ∧ PyData.eqv d3 d3 = true) : SeqAt.shaped (.list [d0, d1, d2, d3]) = true ∧ PyData.eqv (.list [d0, d1, d2, d3]) (.list [d0, d1, d2, d3]) = true := by
  refine ⟨?_, by simp [PyData.eqv, PyData.eqvAll, h0.2.2, h1.2.2, h2.2.2, h3.2.2]⟩
  have e1 : PyData.canLay0 (.list [d0, d1, d2, d3]) = true := by
    simp only [PyData.canLay0, PyData.canLayAll0, h0.1, h1.1, h2.1, h3.1, Bool.and_true]
  have e2 : PyData.depth (.list [d0, d1, d2, d3]) ≤ 64 := by
    have p0 := h0.2.1
    have p1 := h1.2.1
    have p2 := h2.2.1
    have p3 := h3.2.1
    simp only [PyData.depth, PyData.depthAll]
    exact om_le (Nat.succ_le_succ (Nat.max_le.2 ⟨p0, Nat.max_le.2 ⟨p1, Nat.max_le.2 ⟨p2, Nat.max_le.2 ⟨p3, Nat.zero_le _⟩⟩⟩⟩)) rfl
  exact (congr (congrArg and e1) (decide_eq_true e2)).trans rfl
theorem asked_eq {w : World} {A : Around} {E : Value → Shared → Prop} {s : Shared} {g : Heap} {L q1 q2 : Addr} {Q : Value → Shared → Prop} {led new1 new2 : List (Addr × Obj)} {y1 y2 : List Value} {n1 n2 : Nat} {way : Nat → Int} {r1 r2 : Nat → Option Int} (N : News g L s.heap led)
    (h1 : (q1, ({ cls := .type "list", data := .seq y1.toArray n1 } : Obj)) ∈ led) (h2 : (q2, ({ cls := .type "list", data := .seq y2.toArray n2 } : Obj)) ∈ led) (l1 : y1.length = 4) (l2 : y2.length = 4)
    (a1 : ∀ j y, y1[j]? = some y → AskV (way j) (r1 j) y new1) (a2 : ∀ j y, y2[j]? = some y → AskV (way j) (r2 j) y new2) (s1 : ∀ q ∈ new1, q ∈ led) (s2 : ∀ q ∈ new2, q ∈ led)
    (hr : ∀ j, j < 4 → askD (way j) (r1 j) = askD (way j) (r2 j)) (hu : A.units + 64 < cLine) (h : Q (.bool true) s) : wpAny (model PG w) A (compareOp .Eq (.ref q1) (.ref q2)) Q E s := by
  obtain ⟨b1, e1⟩ := ask_reads N h1 l1 a1 s1
  obtain ⟨b2, e2⟩ := ask_reads N h2 l2 a2 s2
  rw [hr 0 (by decide), hr 1 (by decide), hr 2 (by decide), hr 3 (by decide)] at e1
  obtain ⟨z1, z2⟩ := ask_shape (ask_one (way 0) (r2 0)) (ask_one (way 1) (r2 1)) (ask_one (way 2) (r2 2)) (ask_one (way 3) (r2 3))
  exact eq_dataH e1 e2 z1 z1 hu (by rw [z2]; exact h)
theorem callWith_Zl {M : Model} {A : Around} {E : Value → Shared → Prop} {s : Shared} {env : Env} {pos : Pos} {first : List Value} {Q : Value → Shared → Prop} {P : Params} {vn v : Value} {Z : KCls} {led : List (Addr × Obj)} {e : PySem.Expr} {rest : List PySem.Expr} (_hZ : ∀ q ∈ Z.led P vn v, q ∈ led)
    (h : wpAny M A (spliced (backTo pos (starEach (e :: rest) env))) (fun vs s₁ => Stand (Z.led P vn v) s₁.heap ∧ wpAny M A (call (.ref Z.a) (first ++ vs)) Q E s₁) E s)
    (he : starEach (e :: rest) env = (false, eval e env) :: starEach rest env := by rfl) (hplain : (backTo pos (starEach rest env)).any (·.1) = false := by rfl) :
    wpAny M A (callWith pos (.ref Z.a) first (backTo pos (starEach (e :: rest) env)) []) Q E s := by
  rw [he] at h ⊢
  exact callWith_of (P := fun h => Stand (Z.led P vn v) h) (by show ((false || (backTo pos (starEach rest env)).any (·.1)) || false) = false; rw [hplain]; rfl) (fun h S => keeps_K (k_keepZ S) h (KCls.kin S)) (evalArgs_plain h)
noncomputable def ElK (Z : KCls) (d : DS) (tt : Nat → Tok) (j : Nat) (y : Value) (new : List (Addr × Obj)) : Prop := ∃ x dx, y = .ref x ∧ (x, kInst Z.a dx (.str (tx (rowL d j)) (tt j))) ∈ new ∧ (dx, emptyDict) ∈ new
theorem ElK.mono {Z : KCls} {d : DS} {tt : Nat → Tok} (j : Nat) (y : Value) (new new' : List (Addr × Obj)) (s : ∀ q ∈ new, q ∈ new') (h : ElK Z d tt j y new) : ElK Z d tt j y new' := let ⟨x, dx, a, b, c⟩ := h; ⟨x, dx, a, s _ b, s _ c⟩
noncomputable def ElD (r : Option Int) (y : Value) : Prop := (r = none ∧ y = .none) ∨ ∃ n t, r = some n ∧ y = .int n t
theorem standN {g h : Heap} {L : Addr} {l led : List (Addr × Obj)} (N : News g L h led) (hl : ∀ q ∈ l, q ∈ led) : Stand l h := fun q hq => (N q (hl q hq)).1
theorem elEnd {g h' : Heap} {L : Addr} {m : Str → Option Value} {s₂ : Shared} {tk' : Nat} {led new : List (Addr × Obj)} {El : Value → List (Addr × Obj) → Prop} {y : Value} (F : Fr g L h' m) (N : News g L h' (new ++ led)) (fr : ∀ p ∈ new, p.2.data ≠ .cell none ∧ ∀ q ∈ led, q.1 ≠ p.1) (h : El y new) : ElEnd g L m s₂ led El y { s₂ with heap := h', toks := tk' } :=
  ⟨new, h', tk', rfl, F, N, fr, h⟩
end
section
open PySem.W.X PySem.Builtin
set_option autoImplicit false
theorem m7lt {n : Int} : 7 * n < 0 ↔ n < 0 := Int.mul_lt_mul_left (b := n) (c := 0) (a := 7) (by decide)
theorem m7le {n : Int} : 7 * n ≤ 0 ↔ n ≤ 0 := Int.mul_le_mul_left (b := n) (c := 0) (a := 7) (by decide)
theorem m7gt {n : Int} : 7 * n > 0 ↔ n > 0 := Int.mul_lt_mul_left (b := 0) (c := n) (a := 7) (by decide)
theorem m7ge {n : Int} : 7 * n ≥ 0 ↔ n ≥ 0 := Int.mul_le_mul_left (b := 0) (c := n) (a := 7) (by decide)
theorem askD_scale {way : Int} {r : Option Int} : askD way (r.map (7 * ·)) = askD way r := by
  cases r with
  | none => rfl
  | some n =>
    have h1 : decide (7 * n < 0) = decide (n < 0) := decide_eq_decide.2 m7lt
    have h2 : (7 * n == 0) = (n == 0) := by
      by_cases h : n = 0
      · subst h; rfl
      · rw [beq_eq_false_iff_ne.2 h, beq_eq_false_iff_ne.2 (Int.mul_ne_zero (by decide) h)]
    have h3 : decide (7 * n ≥ 0) = decide (n ≥ 0) := decide_eq_decide.2 m7ge
    have h4 : decide (7 * n ≤ 0) = decide (n ≤ 0) := decide_eq_decide.2 m7le
    have h5 : decide (7 * n > 0) = decide (n > 0) := decide_eq_decide.2 m7gt
    show askD way (some (7 * n)) = _
    unfold askD
    dsimp only
    rw [h1, h2, h3, h4, h5]
theorem redV_scale (f : Nat → Nat → Option Int) : ∀ n, redV (fun a b => (f a b).map (7 * ·)) n = redV f n
  | 0 => rfl
  | n + 1 => by
    show (redV (fun a b => (f a b).map (7 * ·)) n).bind (fun b => ((f (n + 1) b).map (7 * ·)).map fun r => if r < 0 then n + 1 else b) = (redV f n).bind fun b => (f (n + 1) b).map fun r => if r < 0 then n + 1 else b
    rw [redV_scale f n]
    congr 1
    funext b
    cases f (n + 1) b with
    | none => rfl
    | some r =>
      show some (if 7 * r < 0 then n + 1 else b) = some (if r < 0 then n + 1 else b)
      by_cases h : r < 0
      · rw [if_pos h, if_pos (m7lt.2 h)]
      · rw [if_neg h, if_neg (fun q => h (m7lt.1 q))]
theorem firstV_red (f : Nat → Nat → Option Int) : firstV f = match redV f 3 with | none => -1 | some b => (b : Int) := by
  unfold firstV
  have : first4 f = redV f 3 := by
    unfold first4
    show _ = (((some 0 : Option Nat).bind fun b => (f 1 b).map fun r => if r < 0 then 1 else b).bind fun b => (f 2 b).map fun r => if r < 0 then 2 else b).bind fun b => (f 3 b).map fun r => if r < 0 then 3 else b
    rfl
  rw [this]
  all_goals (cases redV f 3 <;> rfl)
section
variable {w : World} {A : Around} {E : Value → Shared → Prop} {s : Shared} {g : Heap} {L q : Addr} {m : Str → Option Value} {Q : Value → Shared → Prop} {led T : List (Addr × Obj)} {ys : List Value} {i : Int} {a : Nat} {t : Tok} {value slice : PySem.Expr} {n : Nat}
theorem keys_at {Z : KCls} {d : DS} {tt : Nat → Tok} (N : News g L s.heap led) (hq : (q, LCg.lst ys) ∈ led) (hk : ∀ j y, ys[j]? = some y → ElK Z d tt j y T) (hl : ys.length = 4) (hi : Idx i a) (h : ∀ x dx, (x, kInst Z.a dx (.str (tx (rowL d a)) (tt a))) ∈ T → (dx, emptyDict) ∈ T → Q (.ref x) s)
    (hs : subscripted slice false (.ref q) (.int i t) = operate [.ref q, .int i t] (getItem (.ref q) (.int i t)) := by with_unfolding_all rfl) : wpAny (model PG w) A (subscriptTail value slice (.ref q) (.int i t)) Q E s :=
  four_at N hq hl hi (fun y hy => by obtain ⟨x, dx, rfl, h1, h2⟩ := hk a y hy; exact h x dx h1 h2) hs
theorem ways_at {c : Nat} (N : News g L s.heap led) (hq : (q, LCg.lst ys) ∈ led) (hk : ∀ j y, ys[j]? = some y → ∃ t, y = Value.int (wayI c j) t) (hl : ys.length = 4) (hi : Idx i a) (h : ∀ u, Q (.int (wayI c a) u) s)
    (hs : subscripted slice false (.ref q) (.int i t) = operate [.ref q, .int i t] (getItem (.ref q) (.int i t)) := by with_unfolding_all rfl) : wpAny (model PG w) A (subscriptTail value slice (.ref q) (.int i t)) Q E s :=
  four_at N hq hl hi (fun y hy => by obtain ⟨u, rfl⟩ := hk a y hy; exact h u) hs
theorem dues_at {v : Value} (N : News g L s.heap led) (hq : (q, LCg.lst ys) ∈ led) (hk : ys[a]? = some v) (hl : ys.length = 4) (hi : Idx i a) (h : Q v s)
    (hs : subscripted slice false (.ref q) (.int i t) = operate [.ref q, .int i t] (getItem (.ref q) (.int i t)) := by with_unfolding_all rfl) : wpAny (model PG w) A (subscriptTail value slice (.ref q) (.int i t)) Q E s :=
  four_at N hq hl hi (fun y hy => by rw [hk] at hy; cases hy; exact h) hs
theorem rows_at {ra : Nat → Addr} (N : News g L s.heap led) (hq : (q, W.listOf #[.ref (ra 0), .ref (ra 1), .ref (ra 2), .ref (ra 3)] n) ∈ led) (hi : Idx i a) (h : Q (.ref (ra a)) s)
    (hs : subscripted slice false (.ref q) (.int i t) = operate [.ref q, .int i t] (getItem (.ref q) (.int i t)) := by with_unfolding_all rfl) : wpAny (model PG w) A (subscriptTail value slice (.ref q) (.int i t)) Q E s :=
  pick4 (u := fun a => .ref (ra a)) ⟨_, (N _ hq).1, rfl, _, rfl⟩ hi h hs
theorem rowlen_at {vs : List Value} {ns : List Int} (N : News g L s.heap led) (hq : (q, W.listOf vs.toArray n) ∈ led) (hi : IntsAre vs ns) (hl : ns.length ≤ 100) (h : ∀ u, Q (.int ((ns.length : Nat) : Int) u) { s with toks := s.toks + 1 + 1 }) : wpAny (model PG w) A (call (.builtin "len") [.ref q]) Q E s := by
  have e : vs.toArray.size = ns.length := by rw [List.size_toArray, hi.length]
  refine len_list ⟨_, (N _ hq).1, rfl, _, rfl⟩ (by rw [e]; exact om_i63 hl rfl) ?_
  rw [e]
  exact h _
theorem best_at {l : Nat → List Nat} {tt : Nat → Tok} {u : Tok} {f : Nat → Nat → Option Int} (N : News g L s.heap led) (hq : (q, W.listOf #[.str (tx (l 0)) (tt 0), .str (tx (l 1)) (tt 1), .str (tx (l 2)) (tt 2), .str (tx (l 3)) (tt 3), .str (Str.ofString "refused") u] n) ∈ led)
    (hi : i = firstV f) (h0 : redV f 3 = none → Q (.str (Str.ofString "refused") u) s) (h1 : ∀ b, redV f 3 = some b → Q (.str (tx (l b)) (tt b)) s)
    (hs : subscripted slice false (.ref q) (.int i t) = operate [.ref q, .int i t] (getItem (.ref q) (.int i t)) := by with_unfolding_all rfl) : wpAny (model PG w) A (subscriptTail value slice (.ref q) (.int i t)) Q E s := by
  have hl : s.heap.IsList q _ := ⟨_, (N _ hq).1, rfl, _, rfl⟩
  refine tail_any hl.typeIs slot_list_getitem.lookup ?_ hs
  rw [firstV_red] at hi
  cases e : redV f 3 with
  | none =>
    rw [e] at hi
    obtain rfl : i = -1 := hi
    exact wpAny_getItem_list_neg hl (by decide) (by simp) (by decide) rfl (h0 e)
  | some b =>
    rw [e] at hi
    obtain rfl : i = (b : Int) := hi
    have := redV_le e
    refine wpAny_getItem_list hl (Int.natCast_nonneg b) (om_i63 this rfl) ?_ (h1 b e)
    rcases b with _ | _ | _ | _ | b
    · rfl
    · rfl
    · rfl
    · rfl
    · exact (no4 (Nat.lt_succ_of_le this)).elim
end
theorem sub_new {α : Type} {a c1 c2 c3 c4 c5 c6 : α} {new T : List α} : ∀ q ∈ a :: (new ++ T), q ∈ a :: (new ++ c1 :: c2 :: c3 :: c4 :: c5 :: c6 :: T) := fun q hq => by
  rcases List.mem_cons.mp hq with rfl | hq
  · exact .head _
  · rcases List.mem_append.mp hq with hq | hq
    · exact .tail _ (List.mem_append_left _ hq)
    · exact .tail _ (List.mem_append_right _ (.tail _ (.tail _ (.tail _ (.tail _ (.tail _ (.tail _ hq)))))))
theorem nc_new {a : Addr} {ys : List Value} {new T : List (Addr × Obj)} (h1 : ∀ q ∈ new, q.2.data ≠ .cell none) (h2 : ∀ q ∈ T, q.2.data ≠ .cell none) : ∀ q ∈ (a, LCg.lst ys) :: (new ++ T), q.2.data ≠ .cell none := fun q hq => by
  rcases List.mem_cons.mp hq with rfl | hq
  · exact fun h => nomatch h
  · rcases List.mem_append.mp hq with hq | hq
    · exact h1 q hq
    · exact h2 q hq
theorem at4 {ys : List Value} (hl : ys.length = 4) {j : Nat} (hj : j < 4) : ∃ y, ys[j]? = some y := ⟨ys[j]'(Nat.lt_of_lt_of_eq hj hl.symm), List.getElem?_eq_getElem _⟩
theorem fst_red {d : DS} {b : Nat → Bool} : redV (fun x y => cmpR (rowK d x) (b x) (rowK d y) (b y)) 3 = redV (fun x y => due (rowK d x) (b x) (rowK d y) (b y)) 3 := by
  have e : (fun x y => cmpR (rowK d x) (b x) (rowK d y) (b y)) = fun x y => (due (rowK d x) (b x) (rowK d y) (b y)).map (7 * ·) := by
    funext x y
    exact cmp_due _ _ _ _
  rw [e]
  exact redV_scale _ 3
end
section
local macro_rules | `(tactic| k_mem) => `(tactic| with_reducible assumption)

theorem fill_Lw : PySem.Challenge.rw_ij0136_01 = PySem.Challenge.rw_ij0136_01 ∧ pre.heap_1 = pre.heap_1 := by
  k_with_none
  k_with "my rel" => (repeat' (first | (k_unfold; (try dsimp only)) | walk1 | walk_at "my next" | (dsimp only; walk1) | (leave1; try dsimp only) | fail "no step"))
  k_with "my room" => (((try simp only [depth_mark, depth_under_make, depth_under_kw, depth_in1, depth_deeper, depth_caller]); (try dsimp only [ar]); omega))
  k_with "my units" => ((have hcL9 := cLine_is; (try simp only [units_in1, units_deeper, Around.mark_units, units_caller]); (try dsimp only [ar]); omega))
  k_with "my unf" => ((refine' enter ?k1 ?k2 ?k3 ?k4 ?k6 ?k7 ?k8 ?k9 ?kB ?_ ?c2 ?c3 ?c4 ?c5; (case k1 => assumption); (case k2 => assumption); (case k3 => assumption); (case k4 => assumption); (case k6 => k_is); (case k7 => k_is); (case k8 => k_room); (case k9 => first | exact BindsTo.of_eq rfl | exact binds_K (Frag.In.keeps (by assumption) (Below.stays (by assumption))) rfl (by k_is) rfl rfl rfl); (case c5 => decide); (case kB => exact locs rfl); (case c2 => exact rfl); (case c3 => exact rfl); (case c4 => exact rfl); k_whole; intro g' L' h' G' F' N' B' X' T'; (try simp only [List.map_cons, List.map_nil] at G'); (try dsimp only); (try k_fold)))
  k_with "subscriptTail Attribute Name Slice str ref" => (((with_reducible rename Fr _ _ _ _ => F'); (with_reducible rename News _ _ _ _ => N'); (refine slice_strN_ss (hsz := ?hsz) (s := ⟨_, _, _, _, _⟩) F' N' ?_); (case hsz => (rw [sizeLine_eq]; omega)); intro h' t' tk' F' N'; (try k_sweep)))
  k_with "subscriptTail BinOp Subscript Add Constant Slice str ref" => (((with_reducible rename Fr _ _ _ _ => F'); (with_reducible rename News _ _ _ _ => N'); (refine slice_strN_ns (hsz := ?hsz) (s := ⟨_, _, _, _, _⟩) F' N' ?_); (case hsz => exact size_sl (by with_reducible assumption)); intro h' t' tk' F' N'; (try k_sweep)))
  k_with "call builtin:str.find" => (refine find4 ?_)
  k_with "my apart" => (repeat' (first | (refine List.forall_mem_cons.2 ⟨⟨?_, ?_⟩, ?_⟩) | exact List.forall_mem_nil _ | with_reducible assumption | (apply Ne.symm; with_reducible assumption)))
  k_with "binaryOp Add str str" => (((refine add_str (hsz := size_slc (by with_reducible assumption)) ?_); intro _ _))
  k_with "execs cons" => (((try dsimp only); first | (with_reducible refine nx_last ?_) | ((with_reducible refine nx_cons ?_); intro q' nx')))
  k_with "execs nil" => (with_reducible refine wpAny_execs_nil ?_)
  k_with "my next" => (with_reducible first | refine trq_b ?_ | refine ifq_t ?_ | refine ifq_f ?_ | refine ifq ?_ | refine trq ?_ | refine nx_next (by assumption) ?_ | refine nx_ret (by assumption) ?_ | refine nx_brk (by assumption) ?_ | refine nx_cont (by assumption) ?_)
  k_with "eval Constant int" => (((with_reducible refine int_T ?_); intro t' tk'))
  k_with "eval Constant str" => (((with_reducible refine str_T ?_); intro t' tk'))
  k_with "my nth" => (with_reducible first | exact nth_0 | exact nth_1 | exact nth_2 | exact nth_3 | exact nth_4 | exact nth_5 | exact nth_6)
  k_with "my ne" => (first | with_reducible assumption | exact Ne.symm (by with_reducible assumption) | k_ne)
  k_with "my allne" => (first | with_reducible exact all_nil | (refine' all_cons ?a ?b; (case a => walk_at "my ne"); (case b => walk_at "my allne")))
  k_with "my upd" => (first | (refine' upd_head ?a; (case a => walk_at "my allne")) | (refine' upd_tail ?a ?b; (case a => walk_at "my ne"); (case b => walk_at "my upd")))
  k_with "eval Name" => ((k_here; (with_reducible first | show wpAny _ _ (PySem.eval _ (envOf _ _ _ _ _)) _ _ _ | show wpAny _ _ (PySem.eval _ (envX _ _ _ _ _ _)) _ _ _); k_dflt (refine' name_T ?F ?v ?o ?_; (case F => k_asm); (case o => exact rfl); (case v => rfl); k_whole)))
  k_with "eval Attribute Name" => ((k_here; (with_reducible first | show wpAny _ _ (PySem.eval _ (envOf _ _ _ _ _)) _ _ _ | show wpAny _ _ (PySem.eval _ (envX _ _ _ _ _ _)) _ _ _); k_dflt (refine' own_T ?F ?x ?lo ?X ?N ?h1 ?h2 ?ok ?ho ?hl ?hv ?_; (case F => k_asm); (case lo => exact rfl); (case x => exact rfl); (case X => k_asm); (case N => k_asm); (case h1 => walk_at "my nth"); (case h2 => walk_at "my nth"); (case ok => (intro P9; kernel_rfl)); (case ho => first | exact rfl | walk_at "my isD"); (case hl => first | k_get | walk_at "my getl"); (case hv => first | exact rfl | k_handed); k_whole); intro tk'))
  k_with "getAttr ref" => ((k_here; k_dflt (refine' get_T ?F ?X ?N ?h1 ?h2 ?ok ?ho ?hl ?hv ?_; (case F => k_asm); (case X => k_asm); (case N => k_asm); (case h1 => walk_at "my nth"); (case h2 => walk_at "my nth"); (case ok => (intro P9; kernel_rfl)); (case ho => first | exact rfl | walk_at "my isD"); (case hl => first | k_get | walk_at "my getl"); (case hv => first | exact rfl | k_handed); k_whole); intro tk'))
  k_with "storeName" => ((k_here; (with_reducible first | show wpAny _ _ (PySem.storeName (envOf _ _ _ _ _)  _ _) _ _ _ | show wpAny _ _ (PySem.storeName (envX _ _ _ _ _ _)  _ _) _ _ _); k_dflt (refine' store_T ?F ?N ?o ?_; (case F => k_asm); (case N => k_asm); (case o => exact rfl); k_whole); intro h' tk' F' N'; (try k_sweep)))
  k_with "setAttr ref" => ((k_here; k_dflt (refine' set_T ?F ?X ?N ?h1 ?h2 ?ok ?e ?U ?_; (case F => k_asm); (case X => k_asm); (case N => k_asm); (case h1 => walk_at "my nth"); (case h2 => walk_at "my nth"); (case ok => (intro P9; kernel_rfl)); (case e => walk_at "my puts"); (case U => walk_at "my upd"); k_whole); intro h' tk' F' N'; (try k_sweep)))
  k_with "ite" => (first | with_reducible refine ite_tt ?_ | with_reducible refine ite_ff ?_)
  k_with "my ofb" => (with_reducible first | exact Nat.ne_of_beq_eq_false rfl | exact off1 | exact ffo1 | exact off2 | exact ffo2 | exact off3 | exact ffo3 | exact off4 | exact ffo4 | exact off5 | exact ffo5 | exact off6 | exact ffo6)
  k_with "my off" => (with_reducible first | walk_at "my ofb" | (refine strip ?_; first | walk_at "my ofb" | (refine strip ?_; first | walk_at "my ofb" | (refine strip ?_; first | walk_at "my ofb" | (refine strip ?_; first | walk_at "my ofb" | (refine strip ?_; walk_at "my ofb"))))))
  k_with "my omega" => (with_reducible first | (show _ < _; first | exact room (by assumption) rfl | exact room0 (by assumption) | exact room2 (by assumption) rfl | exact room3 (by assumption) rfl | exact room4 (by assumption) rfl | exact room5 (by assumption) rfl | exact lt_ble rfl | exact om_i63' (by assumption) rfl | exact om_i63 (by assumption) rfl | exact Nat.succ_lt_succ (by assumption) | exact Nat.lt_of_succ_lt_succ (by assumption) | exact Int.ofNat_lt.2 (by assumption) | exact Int.ofNat_lt.1 (by assumption)) | (show _ ≤ _; first | exact Nat.le_of_ble_eq_true rfl | exact Nat.le_refl _ | exact Nat.le_succ _ | exact Nat.le_add_right _ _ | exact om_ltle (by assumption) rfl | exact om_le (by assumption) rfl | exact Nat.le_of_lt (by assumption) | exact Int.ofNat_le.2 (by assumption) | exact Int.natCast_nonneg _ | exact Int.ofNat_le.1 (by assumption) | exact om_addl rfl) | (show _ ≠ _; first | walk_at "my off" | exact om_nne (by assumption)) | (show _ = _; first | exact om_nn (by assumption)) | (show False; first | exact no3 (by assumption) | exact no4 (by assumption) | exact no5 (by assumption) | exact no6 (by assumption)) | fail "no")
  k_with "my cmp" => (((case F => k_asm); (case o => exact rfl); (case v => rfl)))
  k_with "isTrue Compare" => (first | (k_here; (with_reducible first | show wpAny _ _ (isTrue _ (envOf _ _ _ _ _) _) _ _ _ | show wpAny _ _ (isTrue _ (envX _ _ _ _ _ _) _) _ _ _); first | ((with_reducible show wpAny _ _ (isTrue (.Compare (.Name _ _) [_] [.Constant (.str _) _ _] _) _ _) _ _ _); k_dflt (refine' cmp_s ?F ?v ?o ?_ ?m; walk_at "my cmp"; (case m => with_unfolding_all rfl); k_whole; intro t' tk')) | ((with_reducible show wpAny _ _ (isTrue (.Compare (.Name _ _) [_] [.Constant (.int _) _ _] _) _ _) _ _ _); k_dflt (refine' cmp_i ?F ?v ?o ?_ ?m; walk_at "my cmp"; (case m => with_unfolding_all rfl); k_whole; intro t' tk')) | ((with_reducible show wpAny _ _ (isTrue (.Compare (.Name _ _) [_] [.Constant .none _ _] _) _ _) _ _ _); k_dflt (refine' cmp_n ?F ?v ?o ?_ ?m; walk_at "my cmp"; (case m => with_unfolding_all rfl); k_whole)) | ((with_reducible show wpAny _ _ (isTrue (.Compare (.Name _ _) [_] [.Name _ _] _) _ _) _ _ _); k_dflt (refine' cmp_nn ?F ?v ?o ?u ?p ?_ ?m; walk_at "my cmp"; (case p => exact rfl); (case u => rfl); (case m => with_unfolding_all rfl); k_whole))) | with_reducible refine cmp_1 ?_)
  k_with "exec If" => (with_reducible refine if_T ?_)
  k_with "my puts" => (first | with_reducible exact lex_state | with_reducible exact lex_token | with_reducible exact lex_line | with_reducible exact sio_pos)
  k_with "ite" => (first | with_reducible refine ite_tt ?_ | with_reducible refine ite_ff ?_)
  k_with "ktr_unfL" => ((refine' enterCP ?k1 ?k2 ?k3 ?k4 ?k6 ?k7 ?k8 ?k9 ?kB ?kD ?_ ?c2 ?c3 ?c4; (case k1 => assumption); (case k2 => assumption); (case k3 => assumption); (case k4 => assumption); (case k6 => k_is); (case k7 => k_is); (case k8 => k_room); (case k9 => exact BindsTo.of_eq rfl); (case kB => exact rfl); (case kD => decide +kernel); (case c2 => exact rfl); (case c3 => exact rfl); (case c4 => exact rfl); k_whole; intro g' L' h' tk' cells' GE' G' F' N' Y' B' X' T'; (try dsimp only); (try k_fold)))
  k_with "call ref" => (((with_reducible show wpAny _ _ (call (Value.ref 752) _) _ _ _); (try dsimp only [List.cons_append, List.nil_append]); refine stop_here ?_))
  k_with "call ref" => (((with_reducible show wpAny _ _ (call (Value.ref 733) _) _ _ _); (try dsimp only [List.cons_append, List.nil_append]); refine stop_here ?_))
  k_with "call ref" => (((with_reducible show wpAny _ _ (call (Value.ref 801) _) _ _ _); (try dsimp only [List.cons_append, List.nil_append]); refine stop_here ?_))
  k_with "call ref" => (((with_reducible show wpAny _ _ (call (Value.ref 787) _) _ _ _); (try dsimp only [List.cons_append, List.nil_append]); refine stop_here ?_))
  k_with "call ref" => (((with_reducible show wpAny _ _ (call (Value.ref 780) _) _ _ _); (try dsimp only [List.cons_append, List.nil_append]); refine stop_here ?_))
  k_with "call ref" => (((with_reducible show wpAny _ _ (call (Value.ref 794) _) _ _ _); (try dsimp only [List.cons_append, List.nil_append]); refine stop_here ?_))
  k_with "call ref" => (((with_reducible show wpAny _ _ (call (Value.ref (KCls.a _)) _) _ _ _); (try dsimp only [List.cons_append, List.nil_append]); refine stop_here ?_))
  k_with "storeName" => (((with_reducible show wpAny _ _ (storeName (envOfC _ _ _ _ _) (Str.ofString "rows") _) _ _ _); refine stop_here ?_))
  k_with "storeName" => (((with_reducible show wpAny _ _ (storeName (envOfC _ _ _ _ _) (Str.ofString "torn") _) _ _ _); refine stop_here ?_))
  k_with "storeName" => (((with_reducible show wpAny _ _ (storeName (envOfC _ _ _ _ _) (Str.ofString "key") _) _ _ _); refine stop_here ?_))
  k_with "storeName" => (((with_reducible show wpAny _ _ (storeName (envOfC _ _ _ _ _) (Str.ofString "keys") _) _ _ _); refine stop_here ?_))
  k_with "storeName" => (((with_reducible show wpAny _ _ (storeName (envOfC _ _ _ _ _) (Str.ofString "ways") _) _ _ _); refine stop_here ?_))
  k_with "storeName" => (((with_reducible show wpAny _ _ (storeName (envOfC _ _ _ _ _) (Str.ofString "dues") _) _ _ _); refine stop_here ?_))
  k_with "eval ListComp" => (refine stop_here ?_)
  k_with "exec Assign cons ListComp" => (refine stop_here ?_)
  k_with "my all" => (repeat' (first | exact List.forall_mem_nil _ | (refine List.forall_mem_cons.2 ⟨?_, ?_⟩) | k_mem))
  k_with "my nc" => (repeat' (first | exact List.forall_mem_nil _ | (refine List.forall_mem_cons.2 ⟨?_, ?_⟩) | exact fun h => nomatch h))
  k_with "my five" => (exact ⟨by k_mem, by k_mem, by k_mem, by k_mem, by k_mem⟩)
  k_with "my ne5" => ((refine ⟨?_, ?_, ?_, ?_, ?_⟩ <;> (dsimp only; omega)))
  k_with "my nt" => (repeat' (first | exact List.forall_mem_nil _ | (refine List.forall_mem_cons.2 ⟨?_, ?_⟩) | exact .inl (fun h => nomatch h)))
  k_with "CompSrc" => (refine stop_here ?_)
  k_with "callWith ref" => (((with_reducible show wpAny _ _ (callWith _ (Value.ref (KCls.a _)) _ _ _) _ _ _); k_dflt (refine' callWith_Zl ?S ?_; (case S => with_reducible assumption))))
  k_with "And" => (((with_reducible show Stand _ _ ∧ _); (with_reducible rename News _ _ _ _ => N'); refine ⟨standN N' (by with_reducible assumption), ?_⟩; try dsimp only [List.nil_append, List.cons_append]))
  k_with "subscriptTail" => (((with_reducible show wpAny _ _ (subscriptTail (Expr.Name _ _) _ (Value.ref _) (Value.int _ _)) _ _ _); (with_reducible rename News _ _ _ _ => N'); k_dflt (first | (refine' rows_at N' ?m ?i ?_; (case m => with_reducible assumption); (case i => walk_at "my lidx")) | (refine' dues_at N' ?m ?k ?l ?i ?_; (case m => with_reducible assumption); (case i => walk_at "my lidx"); (case k => with_reducible assumption); (case l => with_reducible assumption)))))
  k_with "subscriptTail" => (((with_reducible show wpAny _ _ (subscriptTail (Expr.Name _ _) _ (Value.ref _) (Value.int _ _)) _ _ _); (with_reducible rename News _ _ _ _ => N'); k_dflt (refine' keys_at N' ?m ?k ?l ?i ?_; (case m => with_reducible assumption); (case k => with_reducible assumption); (case l => with_reducible assumption); (case i => walk_at "my lidx")); intro x' dx' mx' mdx'))
  k_with "subscriptTail" => (((with_reducible show wpAny _ _ (subscriptTail (Expr.Name _ _) _ (Value.ref _) (Value.int _ _)) _ _ _); (with_reducible rename News _ _ _ _ => N'); k_dflt (refine' ways_at N' ?m ?k ?l ?i ?_; (case m => with_reducible assumption); (case k => with_reducible assumption); (case l => with_reducible assumption); (case i => walk_at "my lidx")); intro u'))
  k_with "my lidx" => (first | exact idx0 | exact idx_prv (by with_reducible assumption) | exact idx_at (by with_reducible assumption))
  k_with "call builtin:len" => (((with_reducible rename News _ _ _ _ => N'); (refine' rowlen_at N' ?m ?i ?l ?_; (case m => with_reducible assumption); (case i => with_reducible assumption); (case l => with_reducible assumption)); intro u'))
  k_with "compareOp Eq ref ref" => (refine stop_here ?_)
  k_with "subscriptTail" => (((with_reducible show wpAny _ _ (subscriptTail (Expr.BinOp _ _ _ _) _ _ _) _ _ _); refine stop_here ?_))
  k_with "compareOp Eq str str" => (with_reducible refine eq_same ?_)
  k_fill
  exact ⟨rfl, rfl⟩
open PySem.W.X PySem.Builtin
set_option autoImplicit false
theorem c_law {w : World} {p : Program} {loose : List Str} {mean : ExcName → Option Value} {mg mb : Str → Option Value} {dp un : Nat} {gd : Option (List Code)} {base : Heap} {s : Shared} {R : Result → Shared → Prop} {sc : Addr} {vs : List Value} {ns : List Int}
    (B : Below (ar dp un gd []) base [] s.heap) (X : (pre.heap_1 w.params).In base) (TT : Top p loose mean mg mb base) (V : Free base [] s.heap [(728, tabL []), (782, tabL [])]) (hdp : dp + 70 < recursionLimit) (hu : un + 250 < cLine)
    (hsc : base.IsList sc vs.toArray) (hv : IntsAre vs ns) (hlen : ns.length ≤ 63)
    (ret : ∀ h' tk', Kept [728, 782] s.heap h' → (∃ ps, h'.get? 782 = some (tabObj ps)) → (∃ ps, h'.get? 728 = some (tabObj ps)) → R (.ok (.ret (.bool true))) { s with heap := h', toks := tk' }) :
    codeAny (model PG w) (ar dp un gd []) (.call (.ref 806) ⟨[.ref sc], []⟩) R s := by
  k_dflt walk_at "ktr_unfL"
  with_reducible rename _ = hideAll _ _ => GE
  with_reducible rename Kept _ _ _ => KG
  ktr_rel
  unfold Stop
  with_reducible rename Fr _ _ _ _ => F0
  with_reducible rename News _ _ _ _ => N0
  with_reducible rename Below _ _ _ _ => B0
  with_reducible rename Top _ _ _ _ _ _ => T0
  with_reducible rename Frag.In _ _ => X0
  with_reducible rename CellsAre _ _ _ => Y0
  obtain ⟨m0, F1⟩ := fr_one (x := Str.ofString "script") (v := .ref sc) F0 rfl
  clear F0
  obtain ⟨oD, oW, oKs, oK, oT, oR, rfl, d1, d2, d3, d4, d5, d6⟩ := kc_six Y0
  have dD : oD.data = .cell none := d1
  have dW : oW.data = .cell none := d2
  have dKs : oKs.data = .cell none := d3
  have dK : oK.data = .cell none := d4
  have dT : oT.data = .cell none := d5
  have dR : oR.data = .cell none := d6
  clear Y0 d1 d2 d3 d4 d5 d6
  have hsc' := (hsc.at fun o e => B0.stays _ o e).at fun o e => F1.keep _ o e
  refine k_drawn hsc' hv hlen B0 F1 N0 X TT rfl rfl (by omega) (by omega) ?_
  intro D lt le rl ra RV re T tt b d h1 tk1 hDr F2 N2 fr2
  obtain rfl : T = fun a => tx (rowL d a) := funext hDr.tx_
  clear hsc' F1 N0 fr2
  dsimp only [List.cons_append, List.nil_append] at N2
  ktr_rel
  unfold Stop
  with_reducible rename Fr _ _ _ _ => F3
  with_reducible rename News _ _ _ _ => N3
  try clear F2 N2
  obtain ⟨T0, eT0⟩ : ∃ T0 : List (Addr × Obj), T0 = [(le, LCg.lst [.bool (b 0), .bool (b 1), .bool (b 2), .bool (b 3)]), (lt, LCg.lst [.str (tx (rowL d 0)) (tt 0), .str (tx (rowL d 1)) (tt 1), .str (tx (rowL d 2)) (tt 2), .str (tx (rowL d 3)) (tt 3)]),
    (rl, W.listOf #[.ref (ra 0), .ref (ra 1), .ref (ra 2), .ref (ra 3)] 0), (ra 0, W.listOf (RV 0).toArray (re 0)), (ra 1, W.listOf (RV 1).toArray (re 1)), (ra 2, W.listOf (RV 2).toArray (re 2)), (ra 3, W.listOf (RV 3).toArray (re 3))] := ⟨_, rfl⟩
  have nc0 : ∀ q ∈ T0, q.2.data ≠ .cell none := by
    rw [eT0]
    walk_at "my nc"
  have nt0 : ∀ q ∈ T0, NT q.2 := by
    rw [eT0]
    walk_at "my nt"
  have H0 : LawT rl lt le ra RV re (rowL d) tt b T0 := by
    rw [eT0]
    refine ⟨by k_mem, by k_mem, by k_mem, fun i hi => ?_⟩
    rcases i with _ | _ | _ | _ | i
    · k_mem
    · k_mem
    · k_mem
    · k_mem
    · exact (no4 hi).elim
  refine store_c5 F3 N3 dR (by k_mem) (_, oD) (_, oW) (_, oKs) (_, oK) (_, oT) (T0 ++ [(728, tabL []), (782, tabL [])]) (by walk_at "my five") (by walk_at "my ne5") (List.forall_mem_append.2 ⟨by rw [eT0]; walk_at "my all", by walk_at "my all"⟩) (List.forall_mem_append.2 ⟨nc0, by walk_at "my nc"⟩) ?_ rfl rfl rfl
  clear dR oR F3 N3 eT0
  intro h2 oR F4 N4 dR
  ktr_rel
  unfold Stop
  with_reducible rename Fr _ _ _ _ => F5
  with_reducible rename News _ _ _ _ => N5
  refine store_c5 F5 N5 dT (by k_mem) (_, oD) (_, oW) (_, oKs) (_, oK) (_, oR) (T0 ++ [(728, tabL []), (782, tabL [])]) (by walk_at "my five") (by walk_at "my ne5") (fun q hq => .tail _ (.tail _ (.tail _ (.tail _ (.tail _ (.tail _ hq)))))) (List.forall_mem_append.2 ⟨nc0, by walk_at "my nc"⟩) ?_ rfl rfl rfl
  clear dT oT F5 N5
  intro h3 oT F6 N6 dT
  ktr_rel
  unfold Stop
  have ap : ∀ x ∈ (782, tabL []) :: (L' + 1 + 1, oT) :: (L' + 1 + 1 + 1 + 1 + 1 + 1, oD) :: (L' + 1 + 1 + 1 + 1 + 1, oW) :: (L' + 1 + 1 + 1 + 1, oKs) :: (L' + 1 + 1 + 1, oK) :: (L' + 1, oR) :: T0, x.1 ≠ 728 := by
    have h7 : (728, tabL []) ∈ (L' + 1 + 1, oT) :: (L' + 1 + 1 + 1 + 1 + 1 + 1, oD) :: (L' + 1 + 1 + 1 + 1 + 1, oW) :: (L' + 1 + 1 + 1 + 1, oKs) :: (L' + 1 + 1 + 1, oK) :: (L' + 1, oR) :: (T0 ++ [(728, tabL []), (782, tabL [])]) :=
      .tail _ (.tail _ (.tail _ (.tail _ (.tail _ (.tail _ (List.mem_append_right _ (.head _)))))))
    exact List.forall_mem_cons.2 ⟨by decide, List.forall_mem_cons.2 ⟨ne_of_obj N6 (p := (L' + 1 + 1, oT)) (by k_mem) h7 (nt_cell dT), List.forall_mem_cons.2 ⟨ne_of_obj N6 (p := (L' + 1 + 1 + 1 + 1 + 1 + 1, oD)) (by k_mem) h7 (nt_cell dD), List.forall_mem_cons.2 ⟨ne_of_obj N6 (p := (L' + 1 + 1 + 1 + 1 + 1, oW)) (by k_mem) h7 (nt_cell dW),
      List.forall_mem_cons.2 ⟨ne_of_obj N6 (p := (L' + 1 + 1 + 1 + 1, oKs)) (by k_mem) h7 (nt_cell dKs), List.forall_mem_cons.2 ⟨ne_of_obj N6 (p := (L' + 1 + 1 + 1, oK)) (by k_mem) h7 (nt_cell dK), List.forall_mem_cons.2 ⟨ne_of_obj N6 (p := (L' + 1, oR)) (by k_mem) h7 (nt_cell dR),
      fun q hq => ne_of_obj N6 (.tail _ (.tail _ (.tail _ (.tail _ (.tail _ (.tail _ (List.mem_append_left _ hq))))))) h7 (nt_tb (nt0 q hq) tb_nil)⟩⟩⟩⟩⟩⟩⟩
  refine k_ctk1 B0 F6 (newsSub N6 (l' := (728, tabL []) :: (782, tabL []) :: (L' + 1 + 1, oT) :: (L' + 1 + 1 + 1 + 1 + 1 + 1, oD) :: (L' + 1 + 1 + 1 + 1 + 1, oW) :: (L' + 1 + 1 + 1 + 1, oKs) :: (L' + 1 + 1 + 1, oK) :: (L' + 1, oR) :: T0) ?_) X TT rfl rfl ap (by omega) (by omega) ?_
  · exact List.forall_mem_cons.2 ⟨.tail _ (.tail _ (.tail _ (.tail _ (.tail _ (.tail _ (List.mem_append_right _ (.head _))))))), List.forall_mem_cons.2 ⟨.tail _ (.tail _ (.tail _ (.tail _ (.tail _ (.tail _ (List.mem_append_right _ (.tail _ (.head _)))))))), List.forall_mem_cons.2 ⟨by k_mem, List.forall_mem_cons.2 ⟨by k_mem, List.forall_mem_cons.2 ⟨by k_mem, List.forall_mem_cons.2 ⟨by k_mem, List.forall_mem_cons.2 ⟨by k_mem, List.forall_mem_cons.2 ⟨by k_mem, fun q hq => .tail _ (.tail _ (.tail _ (.tail _ (.tail _ (.tail _ (List.mem_append_left _ hq))))))⟩⟩⟩⟩⟩⟩⟩⟩
  clear ap
  intro Z cc ocK PP h4 tk4 okZ hcc hlt F7 N7
  have CK : Ctk w.params Z.c' Z.oc cc ocK PP := ⟨okZ, hcc, hlt⟩
  ktr_rel
  unfold Stop
  with_reducible rename Fr _ _ _ _ => F8
  with_reducible rename News _ _ _ _ => N8
  generalize hvn : (mg (Str.ofString "__name__")).getD Value.none = vn at N8
  obtain ⟨T1, eT1⟩ : ∃ T1 : List (Addr × Obj), T1 = Z.led w.params vn (.ref 773) ++ [(cc, ocK), (PP, tabL (kTab w.params Z.c')), (728, tabL [rawInt 725, rawInt 4, .ref cc]), (782, tabL [])] ++ T0 := ⟨_, rfl⟩
  have sub1 : ∀ q ∈ T1, q ∈ Z.led w.params vn (.ref 773) ++ [(cc, ocK), (PP, tabL (kTab w.params Z.c')), (728, tabL [rawInt 725, rawInt 4, .ref cc])] ++ (782, tabL []) :: (L' + 1 + 1, oT) :: (L' + 1 + 1 + 1 + 1 + 1 + 1, oD) :: (L' + 1 + 1 + 1 + 1 + 1, oW) :: (L' + 1 + 1 + 1 + 1, oKs) :: (L' + 1 + 1 + 1, oK) :: (L' + 1, oR) :: T0 := fun q hq => by
    rw [eT1] at hq
    rcases List.mem_append.mp hq with hq | hq
    · rcases List.mem_append.mp hq with hq | hq
      · exact List.mem_append_left _ (List.mem_append_left _ hq)
      · rcases List.mem_cons.mp hq with rfl | hq
        · exact List.mem_append_left _ (List.mem_append_right _ (.head _))
        · rcases List.mem_cons.mp hq with rfl | hq
          · exact List.mem_append_left _ (List.mem_append_right _ (.tail _ (.head _)))
          · rcases List.mem_cons.mp hq with rfl | hq
            · exact List.mem_append_left _ (List.mem_append_right _ (.tail _ (.tail _ (.head _))))
            · rw [List.mem_singleton.mp hq]
              exact List.mem_append_right _ (.head _)
    · exact List.mem_append_right _ (.tail _ (.tail _ (.tail _ (.tail _ (.tail _ (.tail _ (.tail _ hq)))))))
  have nc1 : ∀ q ∈ T1, q.2.data ≠ .cell none := fun q hq => by
    have hin := (N8 _ (sub1 q hq)).1
    rw [eT1] at hq
    rcases List.mem_append.mp hq with hq | hq
    · rcases List.mem_append.mp hq with hq | hq
      · rcases List.mem_append.mp hq with hq | hq
        · exact ncell_own q hq
        · exact ncell_cLed CK.co q hq
      · rcases List.mem_cons.mp hq with rfl | hq
        · obtain ⟨o, vs, file, tf, flags, tg, inF, text, tt, e1, e2, e3, _⟩ := hcc _ hin
          rw [e1] at hin
          cases hin
          rw [e3]
          exact fun h => nomatch h
        · exact (show ∀ q ∈ [(PP, tabL (kTab w.params Z.c')), (728, tabL [rawInt 725, rawInt 4, .ref cc]), (782, tabL [])], q.2.data ≠ .cell none by walk_at "my nc") q hq
    · exact nc0 q hq
  have H1 : LawT rl lt le ra RV re (rowL d) tt b T1 := H0.more fun q hq => eT1 ▸ List.mem_append_right _ hq
  have Z1 : LawZ w.params vn Z cc ocK PP T1 := by
    refine ⟨fun q hq => eT1 ▸ List.mem_append_left _ (List.mem_append_left _ hq), okZ, CK, ?_⟩
    rw [eT1]
    refine List.forall_mem_cons.2 ⟨List.mem_append_left _ (List.mem_append_right _ (by k_mem)), List.forall_mem_cons.2 ⟨List.mem_append_left _ (List.mem_append_right _ (by k_mem)), List.forall_mem_cons.2 ⟨List.mem_append_left _ (List.mem_append_right _ (by k_mem)), List.forall_mem_cons.2 ⟨List.mem_append_left _ (List.mem_append_right _ (by k_mem)), fun q hq => List.mem_append_left _ (List.mem_append_left _ (List.mem_append_right _ hq))⟩⟩⟩⟩
  refine store_c5 F8 N8 dK (List.mem_append_right _ (by k_mem)) (L' + 1 + 1, oT) (L' + 1 + 1 + 1 + 1 + 1 + 1, oD) (L' + 1 + 1 + 1 + 1 + 1, oW) (L' + 1 + 1 + 1 + 1, oKs) (L' + 1, oR) T1 ⟨List.mem_append_right _ (by k_mem), List.mem_append_right _ (by k_mem), List.mem_append_right _ (by k_mem), List.mem_append_right _ (by k_mem), List.mem_append_right _ (by k_mem)⟩ (by walk_at "my ne5") sub1 nc1 ?_ rfl rfl rfl
  clear dK N6 N8 sub1 H0 nt0 nc0 eT1 T0 oK
  intro h5 oK F9 N9 dK
  ktr_rel
  unfold Stop
  refine wpAny_Assign_Name ?_
  refine LCg.ListComp_U (F₀ := F9) (by with_unfolding_all rfl) (by decide) (by rfl) (by decide) (by rfl) ?_
  ktr_rel
  unfold Stop
  refine LCg.CompSrc.ledger rfl F9 N9 (.tail _ (.tail _ (.tail _ (.tail _ (.tail _ (.tail _ H1.tl_)))))) (by exact Nat.le_of_ble_eq_true rfl) ?_
  intro gg
  refine comp_el (ElK Z d tt) ?_ ElK.mono (fun new => Or.inr ⟨_, List.mem_append_right _ (.tail _ (.tail _ (.tail _ (.tail _ (.tail _ (.tail _ H1.tl_)))))), rfl, _, rfl⟩) ?_
  · intro j v C oC m₂ h tk E' led hj hP hN hx F' N' hC hsub
    have hj : j < 4 := hj
    obtain rfl := tx4_at (l := rowL d) (t := tt) hj hP
    have mK := hsub (L' + 1 + 1 + 1, oK) (.head _)
    have hZ : ∀ q ∈ Z.led w.params vn (.ref 773), q ∈ led := fun q hq => hsub q (.tail _ (.tail _ (.tail _ (.tail _ (.tail _ (.tail _ (Z1.z q hq)))))))
    ktr_rel
    unfold Stop
    with_reducible rename Fr _ _ _ _ => F'
    with_reducible rename News _ _ _ _ => N'
    refine k_keyN hZ okZ B0 F' N' TT rfl rfl (by omega) ?_
    intro x dx h' tk' F' N' fr
    exact elEnd F' N' (List.forall_mem_cons.2 ⟨⟨(fun h => nomatch h), fun q hq => (fr q hq).1⟩, List.forall_mem_cons.2 ⟨⟨(fun h => nomatch h), fun q hq => (fr q hq).2⟩, fun _ h => nomatch h⟩⟩) ⟨x, dx, rfl, .head _, .tail _ (.head _)⟩
  · intro ks new1 lk ncn hks
    have lk : ks.length = 4 := lk
    unfold LCg.FinE
    intro AK h6 tk6 F10 N10 _
    ktr_rel
    unfold Stop
    with_reducible rename Fr _ _ _ _ => F11
    with_reducible rename News _ _ _ _ => N11
    refine store_c5 F11 N11 dKs (.tail _ (List.mem_append_right _ (by k_mem))) (L' + 1 + 1, oT) (L' + 1 + 1 + 1 + 1 + 1 + 1, oD) (L' + 1 + 1 + 1 + 1 + 1, oW) (L' + 1 + 1 + 1, oK) (L' + 1, oR) ((AK, LCg.lst ks) :: (new1 ++ T1)) ⟨.tail _ (List.mem_append_right _ (by k_mem)), .tail _ (List.mem_append_right _ (by k_mem)), .tail _ (List.mem_append_right _ (by k_mem)), .tail _ (List.mem_append_right _ (by k_mem)), .tail _ (List.mem_append_right _ (by k_mem))⟩ (by walk_at "my ne5") sub_new (nc_new ncn nc1) ?_ rfl rfl rfl
    obtain ⟨T2, eT2⟩ : ∃ T2 : List (Addr × Obj), T2 = (AK, LCg.lst ks) :: (new1 ++ T1) := ⟨_, rfl⟩
    have s12 : ∀ q ∈ T1, q ∈ T2 := fun q hq => eT2 ▸ .tail _ (List.mem_append_right _ hq)
    have H2 := H1.more s12
    have Z2 := Z1.more s12
    have nc2 : ∀ q ∈ T2, q.2.data ≠ .cell none := eT2 ▸ nc_new ncn nc1
    have mAK : (AK, LCg.lst ks) ∈ T2 := eT2 ▸ .head _
    have hk2 : ∀ j y, ks[j]? = some y → ElK Z d tt j y T2 := fun j y h => ElK.mono j y new1 T2 (fun q hq => eT2 ▸ .tail _ (List.mem_append_left _ hq)) (hks j y h)
    rw [← eT2]
    clear N11 N9 F9 dKs hks ncn eT2
    intro h7 oKs F12 N12 dKs
    ktr_rel
    unfold Stop
    refine wpAny_Assign_Name ?_
    refine LCg.ListComp_U (F₀ := F12) (by with_unfolding_all rfl) (by decide) (by rfl) (by decide) (by rfl) ?_
    ktr_rel
    unfold Stop
    with_reducible rename Fr _ _ _ _ => F12
    with_reducible rename News _ _ _ _ => N12
    refine LCg.CompSrc.range rfl F12 N12 (by assumption) (by first | decide | rfl) (by first | rfl | decide) (by exact Nat.le_of_ble_eq_true rfl) ?_
    intro gg
    refine comp_el (n := 4) (fun j y _ => ∃ t, y = Value.int (wayI (rowK d 0).length j) t) ?_ (fun _ _ _ _ _ h => h) (fun _ => trivial) ?_
    · rintro j v C oC m₂ h tk E' led hj ⟨tv, rfl⟩ hN hx F' N' hC hsub
      have mR := hsub (L' + 1, oR) (by k_mem)
      have mrl := hsub _ (.tail _ (.tail _ (.tail _ (.tail _ (.tail _ (.tail _ H2.rl_))))))
      have mra := hsub _ (.tail _ (.tail _ (.tail _ (.tail _ (.tail _ (.tail _ (H2.ra_ 0 (by decide))))))))
      have hin := hDr.ints 0
      have hin' : ((rowK d 0).map Int.ofNat).length ≤ 100 := by rw [List.length_map]; exact hDr.lens 0
      ktr_rel
      with_reducible rename Fr _ _ _ _ => F'
      with_reducible rename News _ _ _ _ => N'
      exact ElEnd.none F' N' ⟨_, by rw [List.length_map]; rfl⟩
    intro ws new2 lw ncw hws
    unfold LCg.FinE
    intro AW h8 tk8 F13 N13 _
    clear N12
    ktr_rel
    unfold Stop
    with_reducible rename Fr _ _ _ _ => F13
    with_reducible rename News _ _ _ _ => N13
    refine store_c5 F13 N13 dW (.tail _ (List.mem_append_right _ (by k_mem))) (L' + 1 + 1, oT) (L' + 1 + 1 + 1 + 1 + 1 + 1, oD) (L' + 1 + 1 + 1 + 1, oKs) (L' + 1 + 1 + 1, oK) (L' + 1, oR) ((AW, LCg.lst ws) :: (new2 ++ T2)) ⟨.tail _ (List.mem_append_right _ (by k_mem)), .tail _ (List.mem_append_right _ (by k_mem)), .tail _ (List.mem_append_right _ (by k_mem)), .tail _ (List.mem_append_right _ (by k_mem)), .tail _ (List.mem_append_right _ (by k_mem))⟩ (by walk_at "my ne5") sub_new (nc_new ncw nc2) ?_ rfl rfl rfl
    obtain ⟨T3, eT3⟩ : ∃ T3 : List (Addr × Obj), T3 = (AW, LCg.lst ws) :: (new2 ++ T2) := ⟨_, rfl⟩
    have s23 : ∀ q ∈ T2, q ∈ T3 := fun q hq => eT3 ▸ .tail _ (List.mem_append_right _ hq)
    have H3 := H2.more s23
    have Z3 := Z2.more s23
    have nc3 : ∀ q ∈ T3, q.2.data ≠ .cell none := eT3 ▸ nc_new ncw nc2
    have mAK3 := s23 _ mAK
    have mAW : (AW, LCg.lst ws) ∈ T3 := eT3 ▸ .head _
    have hk3 : ∀ j y, ks[j]? = some y → ElK Z d tt j y T3 := fun j y h => ElK.mono j y T2 T3 s23 (hk2 j y h)
    rw [← eT3]
    clear N13 dW ncw eT3 hk2 mAK
    intro h9 oW F14 N14 dW
    ktr_rel
    unfold Stop
    refine LCg.Assign_ListComp_U (F₀ := F14) (by rfl) (by with_unfolding_all rfl) (by with_unfolding_all rfl) (by decide) (by rfl) (by decide) (by rfl) (by rfl) (by rfl) ?_
    ktr_rel
    unfold Stop
    with_reducible rename Fr _ _ _ _ => F14
    with_reducible rename News _ _ _ _ => N14
    refine LCg.CompSrc.range rfl F14 N14 (by assumption) (by first | decide | rfl) (by first | rfl | decide) (by exact Nat.le_of_ble_eq_true rfl) ?_
    intro gg
    refine comp_el (n := 4) (fun j y new => AskV (wayI (rowK d 0).length j) (cmpR (rowK d (prv j)) (b (prv j)) (rowK d j) (b j)) y new) ?_ (fun _ _ _ _ s h => h.mono s) (fun _ => trivial) ?_
    · rintro j v C oC m₂ h tk E' led hj ⟨tv, rfl⟩ hN hx F' N' hC hsub
      have mKs := hsub (L' + 1 + 1 + 1 + 1, oKs) (by k_mem)
      have mW := hsub (L' + 1 + 1 + 1 + 1 + 1, oW) (by k_mem)
      have sT : ∀ q ∈ T3, q ∈ led := fun q hq => hsub q (.tail _ (.tail _ (.tail _ (.tail _ (.tail _ (.tail _ hq))))))
      have mAK' := sT _ mAK3
      have mAW' := sT _ mAW
      ktr_rel
      unfold Stop
      with_reducible rename Fr _ _ _ _ => F'
      with_reducible rename News _ _ _ _ => N'
      have x' := trivial; have dx' := trivial; have mx' := trivial; have mdx' := trivial; have u' := trivial
      rename_i x1 dx1 mx1 md1 x2 dx2 mx2 md2 tw1
      refine k_askKN (vn := vn) (Z := Z) (r := cmpR (rowK d (prv j)) (b (prv j)) (rowK d j) (b j)) ⟨⟨dx1, dx2, rowL d (prv j), rowL d j, rowK d (prv j), rowK d j, b (prv j), b j, tt (prv j), tt j, rfl, (hDr.texts _).1, (hDr.texts _).1, (hDr.texts _).2, (hDr.texts _).2, sT _ mx1, sT _ md1, sT _ mx2, sT _ md2⟩, fun q hq => sT _ (Z3.z q hq), okZ⟩ (way01 _ _) B0 F' N' X TT rfl rfl (by omega) (by omega) ?_
      intro v new h' tk' hA fr F' N'
      exact elEnd F' N' fr hA
    intro as1 new3 la nca has
    unfold LCg.FinA
    intro AA h10 tk10 F15 N15 _
    clear N14
    obtain ⟨T4, eT4⟩ : ∃ T4 : List (Addr × Obj), T4 = (AA, LCg.lst as1) :: (new3 ++ T3) := ⟨_, rfl⟩
    have N16 : News g' L' h10 ((L' + 1 + 1 + 1 + 1 + 1, oW) :: (L' + 1 + 1, oT) :: (L' + 1 + 1 + 1 + 1 + 1 + 1, oD) :: (L' + 1 + 1 + 1 + 1, oKs) :: (L' + 1 + 1 + 1, oK) :: (L' + 1, oR) :: T4) := newsSub N15 (by
      rw [eT4]
      exact List.forall_mem_cons.2 ⟨.tail _ (List.mem_append_right _ (by k_mem)), List.forall_mem_cons.2 ⟨.tail _ (List.mem_append_right _ (by k_mem)), List.forall_mem_cons.2 ⟨.tail _ (List.mem_append_right _ (by k_mem)), List.forall_mem_cons.2 ⟨.tail _ (List.mem_append_right _ (by k_mem)), List.forall_mem_cons.2 ⟨.tail _ (List.mem_append_right _ (by k_mem)), List.forall_mem_cons.2 ⟨.tail _ (List.mem_append_right _ (by k_mem)), sub_new⟩⟩⟩⟩⟩⟩)
    have s34 : ∀ q ∈ T3, q ∈ T4 := fun q hq => eT4 ▸ .tail _ (List.mem_append_right _ hq)
    have H4 := H3.more s34
    have Z4 := Z3.more s34
    have nc4 : ∀ q ∈ T4, q.2.data ≠ .cell none := eT4 ▸ nc_new nca nc3
    have mAW4 := s34 _ mAW
    have mAA : (AA, LCg.lst as1) ∈ T4 := eT4 ▸ .head _
    have ha4 : ∀ j y, as1[j]? = some y → AskV (wayI (rowK d 0).length j) (cmpR (rowK d (prv j)) (b (prv j)) (rowK d j) (b j)) y T4 := fun j y h => (has j y h).mono fun q hq => eT4 ▸ .tail _ (List.mem_append_left _ hq)
    clear N15 has nca eT4 hk3 mAK3 lk
    ktr_rel
    unfold Stop
    refine wpAny_Assign_Name ?_
    with_reducible rename Fr _ _ _ _ => F17
    refine LCg.ListComp_U (F₀ := F17) (by with_unfolding_all rfl) (by decide) (by rfl) (by decide) (by rfl) ?_
    ktr_rel
    unfold Stop
    with_reducible rename Fr _ _ _ _ => F17
    with_reducible rename News _ _ _ _ => N17
    refine LCg.CompSrc.range rfl F17 N17 (by assumption) (by first | decide | rfl) (by first | rfl | decide) (by exact Nat.le_of_ble_eq_true rfl) ?_
    intro gg
    refine comp_el (n := 4) (fun j y _ => ElD (due (rowK d (prv j)) (b (prv j)) (rowK d j) (b j)) y) ?_ (fun _ _ _ _ _ h => h) (fun _ => trivial) ?_
    · rintro j v C oC m₂ h tk E' led hj ⟨tv, rfl⟩ hN hx F' N' hC hsub
      have mR := hsub (L' + 1, oR) (by k_mem)
      have mT := hsub (L' + 1 + 1, oT) (by k_mem)
      have sT : ∀ q ∈ T4, q ∈ led := fun q hq => hsub q (.tail _ (.tail _ (.tail _ (.tail _ (.tail _ (.tail _ hq))))))
      ktr_rel
      unfold Stop
      with_reducible rename Fr _ _ _ _ => F'
      with_reducible rename News _ _ _ _ => N'
      refine k_due B0 F' N' X TT rfl rfl (H4.rows N' sT hDr.ints hDr.lens) (idx_prv hj) (idx_at hj) (by omega) (by omega) ?_ ?_
      · intro e h' tk' F' N' _
        exact ElEnd.none F' N' (.inl ⟨e, rfl⟩)
      · intro n u h' tk' e F' N' _
        exact ElEnd.none F' N' (.inr ⟨n, u, e, rfl⟩)
    intro ds new4 ld ncd hds
    unfold LCg.FinE
    intro AD h11 tk11 F18 N18 _
    ktr_rel
    unfold Stop
    with_reducible rename Fr _ _ _ _ => F18
    with_reducible rename News _ _ _ _ => N18
    refine store_c5 F18 N18 dD (.tail _ (List.mem_append_right _ (by k_mem))) (L' + 1 + 1, oT) (L' + 1 + 1 + 1 + 1 + 1, oW) (L' + 1 + 1 + 1 + 1, oKs) (L' + 1 + 1 + 1, oK) (L' + 1, oR) ((AD, LCg.lst ds) :: (new4 ++ T4)) ⟨.tail _ (List.mem_append_right _ (by k_mem)), .tail _ (List.mem_append_right _ (by k_mem)), .tail _ (List.mem_append_right _ (by k_mem)), .tail _ (List.mem_append_right _ (by k_mem)), .tail _ (List.mem_append_right _ (by k_mem))⟩ (by walk_at "my ne5") sub_new (nc_new ncd nc4) ?_ rfl rfl rfl
    obtain ⟨T5, eT5⟩ : ∃ T5 : List (Addr × Obj), T5 = (AD, LCg.lst ds) :: (new4 ++ T4) := ⟨_, rfl⟩
    have s45 : ∀ q ∈ T4, q ∈ T5 := fun q hq => eT5 ▸ .tail _ (List.mem_append_right _ hq)
    have H5 := H4.more s45
    have Z5 := Z4.more s45
    have nc5 : ∀ q ∈ T5, q.2.data ≠ .cell none := eT5 ▸ nc_new ncd nc4
    have mAW5 := s45 _ mAW4
    have mAA5 := s45 _ mAA
    have mAD : (AD, LCg.lst ds) ∈ T5 := eT5 ▸ .head _
    have ha5 : ∀ j y, as1[j]? = some y → AskV (wayI (rowK d 0).length j) (cmpR (rowK d (prv j)) (b (prv j)) (rowK d j) (b j)) y T5 := fun j y h => (ha4 j y h).mono s45
    rw [← eT5]
    clear N18 dD ncd eT5 ha4
    intro h12 oD F19 N19 dD
    ktr_rel
    unfold Stop
    refine LCg.Assign_ListComp_U (F₀ := F19) (by rfl) (by with_unfolding_all rfl) (by with_unfolding_all rfl) (by decide) (by rfl) (by decide) (by rfl) (by rfl) (by rfl) ?_
    ktr_rel
    unfold Stop
    with_reducible rename Fr _ _ _ _ => F19
    with_reducible rename News _ _ _ _ => N19
    refine LCg.CompSrc.range rfl F19 N19 (by assumption) (by first | decide | rfl) (by first | rfl | decide) (by exact Nat.le_of_ble_eq_true rfl) ?_
    intro gg
    refine comp_el (n := 4) (fun j y new => AskV (wayI (rowK d 0).length j) (due (rowK d (prv j)) (b (prv j)) (rowK d j) (b j)) y new) ?_ (fun _ _ _ _ s h => h.mono s) (fun _ => trivial) ?_
    · rintro j v C oC m₂ h tk E' led hj ⟨tv, rfl⟩ hN hx F' N' hC hsub
      have mD := hsub (L' + 1 + 1 + 1 + 1 + 1 + 1, oD) (by k_mem)
      have mW := hsub (L' + 1 + 1 + 1 + 1 + 1, oW) (by k_mem)
      have sT : ∀ q ∈ T5, q ∈ led := fun q hq => hsub q (.tail _ (.tail _ (.tail _ (.tail _ (.tail _ (.tail _ hq))))))
      have mAD' := sT _ mAD
      have mAW' := sT _ mAW5
      obtain ⟨y, hy⟩ := at4 ld hj
      rcases hds j y hy with ⟨e, rfl⟩ | ⟨n, u, e, rfl⟩
      · clear hds
        ktr_rel
        with_reducible rename Fr _ _ _ _ => F'
        with_reducible rename News _ _ _ _ => N'
        exact ElEnd.none F' N' (.inl ⟨e, _, rfl⟩)
      · clear hds
        ktr_rel
        unfold Stop
        with_reducible rename Fr _ _ _ _ => F'
        with_reducible rename News _ _ _ _ => N'
        refine k_askIN (way01 _ _) B0 F' N' X TT rfl rfl (by omega) (by omega) ?_
        intro v new h' tk' hA fr F' N'
        exact elEnd F' N' fr (e ▸ hA)
    intro ts new5 lts nct hts
    unfold LCg.FinA
    intro AT h13 tk13 F20 N20 _
    obtain ⟨T6, eT6⟩ : ∃ T6 : List (Addr × Obj), T6 = (AT, LCg.lst ts) :: (new5 ++ T5) := ⟨_, rfl⟩
    have N21 : News g' L' h13 T6 := newsSub N20 (by rw [eT6]; exact sub_new)
    have s56 : ∀ q ∈ T5, q ∈ T6 := fun q hq => eT6 ▸ .tail _ (List.mem_append_right _ hq)
    have mR := N20 (L' + 1, oR) (.tail _ (List.mem_append_right _ (by k_mem)))
    have mT := N20 (L' + 1 + 1, oT) (.tail _ (List.mem_append_right _ (by k_mem)))
    have N22 : News g' L' h13 ((L' + 1, oR) :: (L' + 1 + 1, oT) :: T6) := List.forall_mem_cons.2 ⟨mR, List.forall_mem_cons.2 ⟨mT, N21⟩⟩
    have H6 := H5.more s56
    have Z6 := Z5.more s56
    have mAA6 := s56 _ mAA5
    have mAT : (AT, LCg.lst ts) ∈ T6 := eT6 ▸ .head _
    have ha6 : ∀ j y, as1[j]? = some y → AskV (wayI (rowK d 0).length j) (cmpR (rowK d (prv j)) (b (prv j)) (rowK d j) (b j)) y T6 := fun j y h => (ha5 j y h).mono s56
    have ht6 : ∀ j y, ts[j]? = some y → AskV (wayI (rowK d 0).length j) (due (rowK d (prv j)) (b (prv j)) (rowK d j) (b j)) y T6 := fun j y h => (hts j y h).mono fun q hq => eT6 ▸ .tail _ (List.mem_append_left _ hq)
    clear N20 N21 hts nct eT6 ha5
    ktr_rel
    unfold Stop
    with_reducible rename Fr _ _ _ _ => F23
    with_reducible rename News _ _ _ _ => N23
    refine k_first (H6.rows N23 (fun q hq => .tail _ (.tail _ hq)) hDr.ints hDr.lens) B0 F23 N23 X TT rfl rfl (by omega) (by omega) ?_
    intro v h14 tk14 tk2 hv1 F24 N24
    ktr_rel
    unfold Stop
    with_reducible rename Fr _ _ _ _ => F25
    with_reducible rename News _ _ _ _ => N25
    refine asked_eq N25 (.tail _ (.tail _ mAA6)) (.tail _ (.tail _ mAT)) la lts ha6 ht6 (fun q hq => .tail _ (.tail _ hq)) (fun q hq => .tail _ (.tail _ hq)) (fun j _ => by rw [cmp_due, askD_scale]) (by k_units) ?_
    ktr_rel
    unfold Stop
    with_reducible rename Fr _ _ _ _ => F26
    with_reducible rename News _ _ _ _ => N26
    have hlC : ∀ q ∈ ctkL w.params Z.c' Z.oc cc ocK PP, q ∈ (L' + 1, oR) :: (L' + 1 + 1, oT) :: T6 := fun q hq => .tail _ (.tail _ (Z6.kl q hq))
    refine k_least (l := rowL d) (ks := rowK d) (tn := b) (t := tt) (c := fun x y => cmpR (rowK d x) (b x) (rowK d y) (b y)) CK (fun i _ => hDr.texts i) (.tail _ (.tail _ H6.tl_)) (fun _ _ => rfl) B0 F26 N26 X TT rfl rfl (by omega) (by omega) hlC [(lt, LCg.lst [.str (tx (rowL d 0)) (tt 0), .str (tx (rowL d 1)) (tt 1), .str (tx (rowL d 2)) (tt 2), .str (tx (rowL d 3)) (tt 3)])] (fun q hq => by
      rw [List.mem_singleton.mp hq]
      exact ⟨.tail _ (.tail _ H6.tl_), ctk_nl CK N26 hlC (.tail _ (.tail _ H6.tl_))⟩) ?_
    rw [fst_red]
    intro vl h15 tk15 p8 p7 hvl F27 N27
    try clear N26
    rcases hvl with ⟨e, tl9, rfl⟩ | ⟨bb, e, rfl⟩
    · ktr_rel
      unfold Stop
      with_reducible rename News _ _ _ _ => N28
      with_reducible rename Fr _ _ _ _ => F28
      refine best_at N28 (.head _) hv1 (fun _ => ?_) (fun bb e2 => by rw [e] at e2; cases e2)
      ktr_rel
      all_goals (repeat' (first | k_unfold | dsimp only))
      with_reducible rename Fr _ _ _ _ => F29
      with_reducible rename News _ _ _ _ => N29
      exact ret _ _ (kept_of KG F29) ⟨p8, (N29 (782, tabObj p8) (by k_mem)).1⟩ ⟨p7, (N29 (728, tabObj p7) (by k_mem)).1⟩
    · ktr_rel
      unfold Stop
      with_reducible rename News _ _ _ _ => N28
      with_reducible rename Fr _ _ _ _ => F28
      refine best_at N28 (.head _) hv1 (fun e2 => by rw [e] at e2; cases e2) (fun b2 e2 => ?_)
      obtain rfl : bb = b2 := Option.some.inj (e.symm.trans e2)
      ktr_rel
      all_goals (repeat' (first | k_unfold | dsimp only))
      with_reducible rename Fr _ _ _ _ => F29
      with_reducible rename News _ _ _ _ => N29
      exact ret _ _ (kept_of KG F29) ⟨p8, (N29 (782, tabObj p8) (by k_mem)).1⟩ ⟨p7, (N29 (728, tabObj p7) (by k_mem)).1⟩
end
section
open PySem.W.X PySem.Builtin
set_option autoImplicit false
theorem c_tail (q : Program) (K : Params → Frag) (hK : K = pre.heap_1) (as : List Addr) (e : ∀ P, as = (K P).map (·.1)) (loose : List Str) (d : DefRec) (hn : d.name = Str.ofString "law") :
    WalkO q loose (XL q []) (kmHook K as e [782, 728]).says PySem.Challenge.rw_ij0136_01.row.toRowW d [] (fun f vs => PySem.call f vs) := by
  subst hK
  intro w s₀ s₁ mg mb G Y fa o pm cd doc dV kV ho hd hcd hD hmg hg args vals as' hpre hlay hrd hwl hlo
  have KX := km_in_of Y
  have KT := km_tabs_of Y
  refine Ground.open G ?_
  intro T B D TE TW
  rw [hn] at hmg
  have e806 := mg_of KX T.g (n := Str.ofString "law") (v := .ref 806) (by kernel_rfl)
  rw [hmg] at e806
  cases e806
  have hT9 : TabsAt ([(786, 782), (732, 728)] : List (Addr × Addr)) s₁.heap := List.forall_mem_cons.2 ⟨⟨ch786 KX, KT 782 (.head _)⟩, List.forall_mem_cons.2 ⟨⟨ch732 KX, KT 728 (.tail _ (.head _))⟩, fun _ h => nomatch h⟩⟩
  clear ho hd hcd hD hmg TE TW D B Y
  wrow_args hpre hlay hrd hwl hlo
  have hb : Below (ar (1 + claimMargin) 4 (some []) []) (ghostOf s₁.heap [(786, 782), (732, 728)]) [] s₁.heap := ⟨rfl, fun b o e => of_hideAll _ e, trivial⟩
  have hx : (pre.heap_1 w.params).In (ghostOf s₁.heap [(786, 782), (732, 728)]) := ghost_K hT9 KX (by kernel_rfl)
  have hv : Free (ghostOf s₁.heap [(786, 782), (732, 728)]) [] s₁.heap [(728, tabL []), (782, tabL [])] := List.forall_mem_cons.2 ⟨⟨(hT9 _ (.tail _ (.head _))).2, hideAll_none _ (.tail _ (.head _)), fun _ h => nomatch h⟩, List.forall_mem_cons.2 ⟨⟨(hT9 _ (.head _)).2, hideAll_none _ (.head _), fun _ h => nomatch h⟩, fun _ h => nomatch h⟩⟩
  dsimp only
  refine enter_call ?_
  refine kn_post hT9 (fun _ _ => rfl) ?_
  with_reducible rename Heap.IsList _ _ _ => hL
  with_reducible rename IntsAre _ _ => hI
  refine c_law hb hx (ghost_top hT9 T) hv (by decide +kernel) (by decide +kernel) (ghost_list hT9 hL) hI (by omega) ?_
  intro h' tk' kk g8 g7
  refine ⟨⟨.inl ⟨.bool true, .bool true, [], rfl, fun _ => rfl, .bool true, ?_, unshared_nil⟩, fun b o q => kk b o (of_hideAll _ q) fun hm => ?_, rfl, hg⟩, g8, g7, trivial⟩
  · first | rfl | wrow_post | (exact postW_of (by wrow_shape) (by wtm_val) (by w_fin))
  · simp only [List.mem_cons, List.not_mem_nil, or_false] at hm
    rcases hm with rfl | rfl
    · rw [show (ghostOf s₁.heap [(786, 782), (732, 728)]).get? 728 = none from hideAll_none _ (.tail _ (.head _))] at q
      cases q
    · rw [show (ghostOf s₁.heap [(786, 782), (732, 728)]).get? 782 = none from hideAll_none _ (.head _)] at q
      cases q
end
end Mine.Internal
section
namespace Mine.Internal
theorem final.tw6743677513400678994 : True := trivial
theorem final.tw4071835572335962495 : True := trivial
theorem final.tw10028932202258598893 : True := trivial
theorem final.tw8567406059826478277 : True := trivial
theorem final.tw12185623915464161985 : True := trivial
theorem final.tw9615511342672955860 : True := trivial
theorem final.tw12235082389231132336 : True := trivial
theorem final.tw4407230920248844627 : True := trivial
theorem final.tw10945214899457574170 : True := trivial
theorem final.tw14578850873242619604 : True := trivial
theorem final.tw3992939839192036278 : True := trivial
theorem final.tw3063070037948317639 : True := trivial
theorem final.tw15908133222344735235 : True := trivial
theorem final.tw5648749871009630747 : True := trivial
theorem final.tw18086263553164015987 : True := trivial
theorem final.tw8751566581947900839 : True := trivial
theorem final.tw5725909470056324477 : True := trivial
theorem final.tw16582940857315174478 : True := trivial
theorem final.tw5912525107858067360 : True := trivial
theorem final.tw6204760177279945283 : True := trivial
theorem final.tw3360085145334081521 : True := trivial
theorem final.tw6528419802385475536 : True := trivial
theorem final.tw14085211218494217015 : True := trivial
theorem final.tw10872846714246491293 : True := trivial
theorem final.tw7515730572935875861 : True := trivial
theorem final.tw10775043975926223196 : True := trivial
theorem final.tw2491662433758643123 : True := trivial
theorem final.tw13187227304758660474 : True := trivial
theorem final.tw1630489657361706742 : True := trivial
theorem final.tw15202965123524889213 : True := trivial
theorem final.tw1472809178706713703 : True := trivial
theorem final.tw14075747098603998089 : True := trivial
theorem final.tw2304031188698138422 : True := trivial
theorem final.tw5060132445702797088 : True := trivial
theorem final.tw10938790760448860536 : True := trivial
theorem final.tw6637270596259740306 : True := trivial
theorem final.tw7578274888337794860 : True := trivial
theorem final.tw9796149842459183160 : True := trivial
theorem final.tw9710327641048624167 : True := trivial
theorem final.tw14712959653471567285 : True := trivial
theorem final.tw2741587651244882694 : True := trivial
theorem final.tw12959604468603809761 : True := trivial
theorem final.tw17609421033199564189 : True := trivial
theorem final.tw5104367787985959643 : True := trivial
theorem final.tw14931131792897174990 : True := trivial
theorem final.tw4489917508120489129 : True := trivial
theorem final.tw15823684271478141616 : True := trivial
theorem final.tw15613750168679378877 : True := trivial
theorem final.tw12468140534250791845 : True := trivial
theorem final.tw4337891931808843180 : True := trivial
theorem final.tw1511710313639479496 : True := trivial
theorem final.tw2206367891976477699 : True := trivial
theorem final.tw10208466322500084482 : True := trivial
theorem final.tw16196835971004015797 : True := trivial
theorem final.tw15825348348252997796 : True := trivial
theorem final.tw15907223297767917366 : True := trivial
theorem final.tw2920233537110172645 : True := trivial
theorem final.tw14558297322019864947 : True := trivial
theorem final.tw15743067990235958053 : True := trivial
theorem final.tw11345387551813786001 : True := trivial
theorem final.tw12319042295314734230 : True := trivial
theorem final.tw1444942525305731501 : True := trivial
theorem final.tw16394494801298495838 : True := trivial
theorem final.tw10002229211214802084 : True := trivial
theorem final.tw3074353197113939051 : True := trivial
theorem final.tw3216387100147567027 : True := trivial
theorem final.tw3826856807717943862 : True := trivial
theorem final.tw8383888588811127689 : True := trivial
theorem final.tw8329312413365607452 : True := trivial
theorem final.tw8263477645443900598 : True := trivial
theorem final.tw11791006721782330657 : True := trivial
theorem final.tw1918981974315736477 : True := trivial
theorem final.tw5609615402861577000 : True := trivial
theorem final.tw3352382570440915378 : True := trivial
theorem final.tw12312653685705438198 : True := trivial
theorem final.tw239178191173543193 : True := trivial
theorem final.tw17457670730041320474 : True := trivial
theorem final.tw4254601448924468152 : True := trivial
theorem final.tw579679808928375520 : True := trivial
theorem final.tw5941658210011480978 : True := trivial
theorem final.tw12332043392426783045 : True := trivial
theorem final.tw7720739458327926360 : True := trivial
theorem final.tw13582905113692985077 : True := trivial
theorem final.tw16776787841629360208 : True := trivial
theorem final.tw10133722154815861767 : True := trivial
theorem final.tw1055396598537330064 : True := trivial
theorem final.tw8322857232514723452 : True := trivial
theorem final.tw7629853676588055327 : True := trivial
theorem final.tw11840694332618773298 : True := trivial
theorem final.tw9816041250514535125 : True := trivial
theorem final.tw7362035532890495419 : True := trivial
theorem final.tw7933715495448455697 : True := trivial
theorem final.tw10120101366049134626 : True := trivial
theorem final.tw11609578227018029925 : True := trivial
theorem final.tw15529491376628040562 : True := trivial
theorem final.tw12795506614752703718 : True := trivial
theorem final.tw17412904313299004214 : True := trivial
theorem final.tw243322602060381240 : True := trivial
theorem final.tw1593400390461984173 : True := trivial
theorem final.tw14352656340869007280 : True := trivial
theorem final.tw13153042077400205591 : True := trivial
theorem final.tw7263156905147838280 : True := trivial
theorem final.tw11758711093298352596 : True := trivial
theorem final.tw11126236727774206905 : True := trivial
theorem final.tw3608084947393916142 : True := trivial
theorem final.tw576680092933512246 : True := trivial
theorem final.tw18291604844045433535 : True := trivial
theorem final.tw388895998112076427 : True := trivial
theorem final.tw5883244569586475211 : True := trivial
theorem final.tw14147506591914122264 : True := trivial
theorem final.tw10313924012938279893 : True := trivial
theorem final.tw7199752134888565645 : True := trivial
theorem final.tw8819827223955603550 : True := trivial
theorem final.tw9231965376659028788 : True := trivial
theorem final.tw2301999590265382422 : True := trivial
theorem final.tw14611679485810343570 : True := trivial
theorem final.tw4390483619940348904 : True := trivial
theorem final.tw4216153941369283812 : True := trivial
theorem final.tw18445183097721984132 : True := trivial
theorem final.tw15758578012325445751 : True := trivial
theorem final.tw12964572627354611485 : True := trivial
theorem final.tw17506814947024541792 : True := trivial
theorem final.tw10637799694501047568 : True := trivial
theorem final.tw16837733868887625507 : True := trivial
theorem final.tw13745309274275636746 : True := trivial
theorem final.tw9552598734902153976 : True := trivial
theorem final.tw4167434534745707821 : True := trivial
theorem final.tw10236387258277060751 : True := trivial
theorem final.tw14702206646686232676 : True := trivial
theorem final.tw2414099142581617820 : True := trivial
theorem final.tw10903051859119177157 : True := trivial
theorem final.tw4134543026769870232 : True := trivial
theorem final.tw15276533451036986744 : True := trivial
theorem final.tw7301856846783646312 : True := trivial
theorem final.tw9283351156741519839 : True := trivial
theorem final.tw7185209233603013107 : True := trivial
theorem final.tw824852190366748123 : True := trivial
theorem final.tw4174645617095622026 : True := trivial
theorem final.tw10640009330470527144 : True := trivial
theorem final.tw6942441680447413127 : True := trivial
theorem final.tw9998925018980532862 : True := trivial
theorem final.tw777216420332105138 : True := trivial
theorem final.tw8596870818320989627 : True := trivial
theorem final.tw12088205508691916452 : True := trivial
theorem final.tw6528942515014024458 : True := trivial
theorem final.tw3378140129720690592 : True := trivial
theorem final.tw6931546144744707611 : True := trivial
theorem final.tw792188584197802668 : True := trivial
theorem final.tw4947208125406538695 : True := trivial
theorem final.tw11731031612260988640 : True := trivial
theorem final.tw11674632601672528352 : True := trivial
theorem final.tw2328696745424668292 : True := trivial
theorem final.tw6146843321261819703 : True := trivial
theorem final.tw926816297874770367 : True := trivial
theorem final.tw7555361794724702523 : True := trivial
theorem final.tw8801556945247433229 : True := trivial
theorem final.tw7182773952377525823 : True := trivial
theorem final.tw11196513241802811567 : True := trivial
theorem final.tw2839988095458864506 : True := trivial
theorem final.tw8284301726982593487 : True := trivial
theorem final.tw9481979944959787176 : True := trivial
theorem final.tw8774828397587281892 : True := trivial
theorem final.tw4505676625425398019 : True := trivial
theorem final.tw1647477005183387368 : True := trivial
theorem final.tw9355496674016390074 : True := trivial
theorem final.tw18130112779794056146 : True := trivial
theorem final.tw1525412500002093445 : True := trivial
theorem final.tw6532886454608524099 : True := trivial
theorem final.tw10457486681081164828 : True := trivial
theorem final.tw15444018892673972226 : True := trivial
theorem final.tw3139380024870928639 : True := trivial
theorem final.tw994562976160095985 : True := trivial
theorem final.tw17713026596967960734 : True := trivial
theorem final.tw12795151959398973301 : True := trivial
theorem final.tw5320088131599923549 : True := trivial
theorem final.tw10590795706263820346 : True := trivial
theorem final.tw10652541535714939746 : True := trivial
theorem final.tw15748097446739344108 : True := trivial
theorem final.tw7169138530744232250 : True := trivial
theorem final.tw672366323464019323 : True := trivial
theorem final.tw4920335325994165556 : True := trivial
theorem final.tw15142128895027841997 : True := trivial
theorem final.tw16629416155531827257 : True := trivial
theorem final.tw7446578301208555171 : True := trivial
theorem final.tw15370040949323422206 : True := trivial
theorem final.tw17128581317036977131 : True := trivial
theorem final.tw13859165107092064554 : True := trivial
theorem final.tw13458383156232206843 : True := trivial
theorem final.tw13595756913082695903 : True := trivial
theorem final.tw5146841361328818437 : True := trivial
theorem final.tw14103135530823332499 : True := trivial
theorem final.tw11331662714503003005 : True := trivial
theorem final.tw15105780574566201235 : True := trivial
theorem final.tw1198982148788026027 : True := trivial
theorem final.tw13101586800704540096 : True := trivial
theorem final.tw17903905821584618828 : True := trivial
theorem final.tw13525365013501066712 : True := trivial
theorem final.tw16448374123564855358 : True := trivial
theorem final.tw11614139591245014813 : True := trivial
theorem final.tw2691772862651277274 : True := trivial
theorem final.tw17887256831074501916 : True := trivial
theorem final.tw10274966626254074893 : True := trivial
theorem final.tw11753200961897737089 : True := trivial
theorem final.tw1498927184658467404 : True := trivial
theorem final.tw12672782448928391661 : True := trivial
theorem final.tw928077249638259442 : True := trivial
theorem final.tw4143521127551744107 : True := trivial
theorem final.tw14457470208238103508 : True := trivial
theorem final.tw771986225429990187 : True := trivial
theorem final.tw12822021789874052590 : True := trivial
theorem final.tw12423254265078683006 : True := trivial
theorem final.tw16011321679393792235 : True := trivial
theorem final.tw13882180709577915171 : True := trivial
theorem final.tw17238482531812316388 : True := trivial
theorem final.tw5598583311405776879 : True := trivial
theorem final.tw10015119016929731061 : True := trivial
theorem final.tw12366766560977509836 : True := trivial
theorem final.tw6491745444948363597 : True := trivial
theorem final.tw1654361570355859580 : True := trivial
theorem final.tw9696223029824238964 : True := trivial
theorem final.tw4288306401759258707 : True := trivial
theorem final.tw16091690770396611453 : True := trivial
theorem final.tw15569799296297054721 : True := trivial
theorem final.tw3595056483798314153 : True := trivial
theorem final.tw4873292711670972676 : True := trivial
theorem final.tw2456465177536896175 : True := trivial
theorem final.tw14628429460248702891 : True := trivial
theorem final.tw15955447589591063179 : True := trivial
theorem final.tw6484844321736687163 : True := trivial
theorem final.tw7127545248712030864 : True := trivial
theorem final.tw4055062702959497848 : True := trivial
theorem final.tw16044671625208815706 : True := trivial
theorem final.tw11120086013156010307 : True := trivial
theorem final.tw9141883503880817916 : True := trivial
theorem final.tw11583464195469444177 : True := trivial
theorem final.tw15359446679894777949 : True := trivial
theorem final.tw13151432836388808018 : True := trivial
theorem final.tw7351731721796957672 : True := trivial
theorem final.tw11147034611228827614 : True := trivial
theorem final.tw18149410550017947438 : True := trivial
theorem final.tw5282904970375622899 : True := trivial
theorem final.tw15541877738176712637 : True := trivial
theorem final.tw5437217159019055726 : True := trivial
theorem final.tw15309061071873830906 : True := trivial
theorem final.tw12116055782168554934 : True := trivial
theorem final.tw4088935476016304383 : True := trivial
theorem final.tw15899219721299420382 : True := trivial
theorem final.tw11764150384123840592 : True := trivial
theorem final.tw11646042039673340257 : True := trivial
theorem final.tw5652739995211549852 : True := trivial
theorem final.tw5672469768298233057 : True := trivial
theorem final.tw13655162605598785373 : True := trivial
theorem final.tw1295088722788445564 : True := trivial
theorem final.tw9087013178970606672 : True := trivial
theorem final.tw5193541061577397503 : True := trivial
theorem final.tw17118946617791080811 : True := trivial
theorem final.tw5764259962419787817 : True := trivial
theorem final.tw11635671411380582332 : True := trivial
theorem final.tw14534435020780858298 : True := trivial
theorem final.tw6912334552293798720 : True := trivial
theorem final.tw9686578143161251187 : True := trivial
theorem final.tw12459291219553145401 : True := trivial
theorem final.tw11953106372415992405 : True := trivial
theorem final.tw9315099008624079343 : True := trivial
theorem final.tw3046596363468657743 : True := trivial
theorem final.tw9427205155303787087 : True := trivial
theorem final.tw7336664553120482085 : True := trivial
theorem final.tw10124633757650666461 : True := trivial
theorem final.tw10461028099505270802 : True := trivial
theorem final.tw17842273748090595691 : True := trivial
theorem final.tw9759940544591409884 : True := trivial
theorem final.tw3666239628794150546 : True := trivial
theorem final.tw7153407145644493671 : True := trivial
theorem final.tw7600309398091756282 : True := trivial
theorem final.tw1591293844985919685 : True := trivial
theorem final.tw7881413432418501598 : True := trivial
theorem final.tw15027349655227162972 : True := trivial
theorem final.tw9524816638175096112 : True := trivial
theorem final.tw6490853375657597474 : True := trivial
theorem final.tw7931060944443930755 : True := trivial
theorem final.tw4219095517255244700 : True := trivial
theorem final.tw18236929723365778549 : True := trivial
theorem final.tw4811065036092548191 : True := trivial
theorem final.tw14879300250370327416 : True := trivial
theorem final.tw9342551042698540160 : True := trivial
theorem final.tw16201102911954299756 : True := trivial
theorem final.tw11066730892801124169 : True := trivial
theorem final.tw11783935954387067755 : True := trivial
theorem final.tw12210568777384475402 : True := trivial
theorem final.tw1253810651145587292 : True := trivial
theorem final.tw14622483985837793904 : True := trivial
theorem final.tw4636533324684425608 : True := trivial
theorem final.tw16130368871417993032 : True := trivial
theorem final.tw16916717997773872182 : True := trivial
theorem final.tw4524427424517089577 : True := trivial
theorem final.tw5425424298484672604 : True := trivial
theorem final.tw1445593574736040866 : True := trivial
theorem final.tw4876018126593907411 : True := trivial
theorem final.tw15251373931624725401 : True := trivial
theorem final.tw6330715907171137147 : True := trivial
theorem final.tw4768053479466141149 : True := trivial
theorem final.tw9563503407172718077 : True := trivial
theorem final.tw17053518030854569269 : True := trivial
theorem final.tw10952300197982083834 : True := trivial
theorem final.tw15879451021750725962 : True := trivial
theorem final.tw9670946223250783806 : True := trivial
theorem final.tw2627491236876973715 : True := trivial
theorem final.tw408296813580707670 : True := trivial
theorem final.tw15286931704362543666 : True := trivial
theorem final.tw15004188884589392012 : True := trivial
theorem final.tw9093670372892993353 : True := trivial
theorem final.tw922576946840861287 : True := trivial
theorem final.tw14669040992901019479 : True := trivial
theorem final.tw17064054579969398032 : True := trivial
theorem final.tw16699440918614946318 : True := trivial
theorem final.tw1104009624644926456 : True := trivial
theorem final.tw10928192861469706429 : True := trivial
theorem final.tw899071887144213553 : True := trivial
theorem final.tw12384161967993859813 : True := trivial
theorem final.tw11737729694329178593 : True := trivial
theorem final.tw4579770284590212396 : True := trivial
theorem final.tw14825192759941832749 : True := trivial
theorem final.tw655385880159719342 : True := trivial
theorem final.tw8696441671208191023 : True := trivial
theorem final.tw16612870594270945295 : True := trivial
theorem final.tw633955541558879184 : True := trivial
theorem final.tw16713380341600949716 : True := trivial
theorem final.tw14298631267433940785 : True := trivial
theorem final.tw3946343736358595203 : True := trivial
theorem final.tw3512755866823262918 : True := trivial
theorem final.tw12585689022482765129 : True := trivial
theorem final.tw12927307366650766635 : True := trivial
theorem final.tw13176913947673897814 : True := trivial
theorem final.tw5729825435545092328 : True := trivial
theorem final.tw13992871730779125307 : True := trivial
theorem final.tw4610537897305945366 : True := trivial
theorem final.tw1917612903012876219 : True := trivial
theorem final.tw1231880134014729437 : True := trivial
theorem final.tw6780572477301153601 : True := trivial
theorem final.tw11978872616393297851 : True := trivial
theorem final.tw5991588238192164321 : True := trivial
theorem final.tw14612752486003667201 : True := trivial
theorem final.tw12907159814823832096 : True := trivial
theorem final.tw2010766248703506946 : True := trivial
theorem final.tw11877277155335961745 : True := trivial
theorem final.tw92433518726766713 : True := trivial
theorem final.tw4935669759856508582 : True := trivial
theorem final.tw8947088135510294607 : True := trivial
theorem final.tw11717241627333861521 : True := trivial
theorem final.tw3407593764211811304 : True := trivial
theorem final.tw15877598497698109531 : True := trivial
theorem final.tw13357153137022627404 : True := trivial
theorem final.tw9390250609379098636 : True := trivial
theorem final.tw3811294297041128451 : True := trivial
theorem final.tw17939150113593460447 : True := trivial
theorem final.tw2624301581238579352 : True := trivial
theorem final.tw8226148438243296054 : True := trivial
theorem final.tw8663050224317512575 : True := trivial
theorem final.tw8950210367217364521 : True := trivial
theorem final.tw12689206356608424849 : True := trivial
theorem final.tw4451723626085750743 : True := trivial
theorem final.tw3723545323649010823 : True := trivial
theorem final.tw11960751791675214515 : True := trivial
theorem final.tw14953455583403770309 : True := trivial
theorem final.tw7241195088616974428 : True := trivial
theorem final.tw13091798381201980219 : True := trivial
theorem final.tw13507823443551076352 : True := trivial
theorem final.tw473764883417604307 : True := trivial
theorem final.tw7763036322624965873 : True := trivial
theorem final.tw3262379909087755209 : True := trivial
theorem final.tw10696568617981625948 : True := trivial
theorem final.tw1189129610037750726 : True := trivial
theorem final.tw9504525916424965795 : True := trivial
theorem final.tw2154462385862756039 : True := trivial
theorem final.tw2866578843842566035 : True := trivial
theorem final.tw3638187468769273705 : True := trivial
theorem final.tw6750657946065317010 : True := trivial
theorem final.tw11564014274821258871 : True := trivial
theorem final.tw15740777188862815944 : True := trivial
theorem final.tw17573316927604449536 : True := trivial
theorem final.tw9695738712835613444 : True := trivial
theorem final.tw10753872175391906137 : True := trivial
theorem final.tw3008927372906465563 : True := trivial
theorem final.tw11227182592211865389 : True := trivial
theorem final.tw4876488693464384500 : True := trivial
theorem final.tw7835497546149602832 : True := trivial
theorem final.tw8541726089038780027 : True := trivial
theorem final.tw4040850148549623243 : True := trivial
theorem final.tw12990481953186971762 : True := trivial
theorem final.tw16008838017620922299 : True := trivial
theorem final.tw27757174452709869 : True := trivial
theorem final.tw10044931424005431743 : True := trivial
theorem final.tw18110598512883487942 : True := trivial
theorem final.tw10995111336292056167 : True := trivial
theorem final.tw18128176607280451154 : True := trivial
theorem final.tw3533385173382140365 : True := trivial
theorem final.tw9773300113248632820 : True := trivial
theorem final.tw441703033373577901 : True := trivial
theorem final.tw12806005277812042481 : True := trivial
theorem final.tw2550225698897702374 : True := trivial
theorem final.tw15174026628213992641 : True := trivial
theorem final.tw9960553902215643880 : True := trivial
theorem final.tw11657433086251832058 : True := trivial
theorem final.tw3806215716831039385 : True := trivial
theorem final.tw1473105666288197311 : True := trivial
theorem final.tw13595308027083959150 : True := trivial
theorem final.tw730883044811755213 : True := trivial
theorem final.tw5181011758725149400 : True := trivial
theorem final.tw17685624657282414115 : True := trivial
theorem final.tw5079584804489861441 : True := trivial
theorem final.tw7648154585785222135 : True := trivial
theorem final.tw9371163169777020353 : True := trivial
theorem final.tw13293182265561581898 : True := trivial
theorem final.tw6950626992137702178 : True := trivial
theorem final.tw1369271981594137505 : True := trivial
theorem final.tw5403592997364172007 : True := trivial
theorem final.tw6977201979485056831 : True := trivial
theorem final.tw402575800445638174 : True := trivial
theorem final.tw13273287261506381474 : True := trivial
theorem final.tw1583840205848813593 : True := trivial
theorem final.tw8734096528841613386 : True := trivial
theorem final.tw10131186109079237955 : True := trivial
theorem final.tw12893225359945641021 : True := trivial
theorem final.tw17327618518834554474 : True := trivial
theorem final.tw7662250532878906816 : True := trivial
theorem final.tw2643217169727061861 : True := trivial
theorem final.tw14691873253040400545 : True := trivial
theorem final.tw7781865134200417808 : True := trivial
theorem final.tw1520596286352538889 : True := trivial
theorem final.tw16292123440245467436 : True := trivial
theorem final.tw7515852688596311272 : True := trivial
theorem final.tw3015777440242847635 : True := trivial
theorem final.tw10264787807226741521 : True := trivial
theorem final.tw14723330692159721258 : True := trivial
theorem final.tw17979338907236636087 : True := trivial
theorem final.tw17491293350642313796 : True := trivial
theorem final.tw9670462488515379048 : True := trivial
theorem final.tw9220302640117473820 : True := trivial
theorem final.tw13643108557085954169 : True := trivial
theorem final.tw8319158024706706135 : True := trivial
theorem final.tw11560607717914684722 : True := trivial
theorem final.tw13900296479226559662 : True := trivial
theorem final.tw18060346298109724728 : True := trivial
theorem final.tw14508993677636002254 : True := trivial
theorem final.tw787298428324973970 : True := trivial
theorem final.tw8387886148442741436 : True := trivial
theorem final.tw35191272910491690 : True := trivial
theorem final.tw101588565699813629 : True := trivial
theorem final.tw16387321313457470910 : True := trivial
theorem final.tw15338884725879019756 : True := trivial
theorem final.tw16914044754871695567 : True := trivial
theorem final.tw11293174868915015006 : True := trivial
theorem final.tw16132061467049912587 : True := trivial
theorem final.tw3289803604513749231 : True := trivial
theorem final.tw17522191267821608978 : True := trivial
theorem final.tw14921509115978739919 : True := trivial
theorem final.tw912001458748134985 : True := trivial
theorem final.tw12196342414339591011 : True := trivial
theorem final.tw2191427278832585964 : True := trivial
theorem final.tw9674482901600041742 : True := trivial
theorem final.tw5101054818948782222 : True := trivial
theorem final.tw7458208563152362746 : True := trivial
theorem final.tw11541548199851092281 : True := trivial
theorem final.tw1543234127015875545 : True := trivial
theorem final.tw175479701811260722 : True := trivial
theorem final.tw3059460551765105084 : True := trivial
theorem final.tw13227730780919392919 : True := trivial
theorem final.tw6784415271554266549 : True := trivial
theorem final.tw10831581986942984557 : True := trivial
theorem final.tw288590490300380272 : True := trivial
theorem final.tw1164973717759744566 : True := trivial
theorem final.tw5699042676837975704 : True := trivial
theorem final.tw17062380449339670024 : True := trivial
theorem final.tw1593043072671893298 : True := trivial
theorem final.tw12256280307130811454 : True := trivial
theorem final.tw4452855431836503261 : True := trivial
theorem final.tw17755734114206100423 : True := trivial
theorem final.tw17882575322708671880 : True := trivial
theorem final.tw14502804094975697838 : True := trivial
theorem final.tw14580536215316559922 : True := trivial
theorem final.tw8086348531937130064 : True := trivial
theorem final.tw1996257519272997714 : True := trivial
theorem final.tw701990113153909247 : True := trivial
theorem final.tw15747776295741427584 : True := trivial
theorem final.tw12087275001674660884 : True := trivial
theorem final.tw4761118627083792214 : True := trivial
theorem final.tw9073203410700565345 : True := trivial
theorem final.tw13856436790008932600 : True := trivial
theorem final.tw4594305978495605014 : True := trivial
theorem final.tw4688854125941460371 : True := trivial
theorem final.tw8887167735960063087 : True := trivial
theorem final.tw11160476043964234718 : True := trivial
theorem final.tw17357677564993466937 : True := trivial
theorem final.tw17819549319743299834 : True := trivial
theorem final.tw3695291999322917770 : True := trivial
theorem final.tw16628808811737351934 : True := trivial
theorem final.tw7850875500399195544 : True := trivial
theorem final.tw8513917704367507009 : True := trivial
theorem final.tw10620268795030745515 : True := trivial
theorem final.tw4843252448760590639 : True := trivial
theorem final.tw15460917265352002187 : True := trivial
theorem final.tw13269844865351233119 : True := trivial
theorem final.tw2755138924572269727 : True := trivial
theorem final.tw8111949403052613936 : True := trivial
theorem final.tw9578262946546248557 : True := trivial
theorem final.tw10591682585987070967 : True := trivial
theorem final.tw16788253022623245871 : True := trivial
theorem final.tw3854627973468308985 : True := trivial
theorem final.tw14600054769405046875 : True := trivial
theorem final.tw18215913354129664566 : True := trivial
theorem final.tw15370370021608298503 : True := trivial
theorem final.tw1077977522033245485 : True := trivial
theorem final.tw15297293053168502744 : True := trivial
theorem final.tw16499092478287729274 : True := trivial
theorem final.tw10669778594684518170 : True := trivial
theorem final.tw14464599586030611559 : True := trivial
theorem final.tw3685139424180280115 : True := trivial
theorem final.tw12808156518606676101 : True := trivial
theorem final.tw15985755907494373937 : True := trivial
theorem final.tw12642653320301548631 : True := trivial
theorem final.tw7860908372352616762 : True := trivial
theorem final.tw15645923048323903449 : True := trivial
theorem final.tw4797233241079251830 : True := trivial
theorem final.tw9600819951641324384 : True := trivial
theorem final.tw14099315948045275997 : True := trivial
theorem final.tw10015189432390988811 : True := trivial
theorem final.tw6811181727374706959 : True := trivial
theorem final.tw8140042699049202120 : True := trivial
theorem final.tw10289529625747855480 : True := trivial
theorem final.tw3293864008374467773 : True := trivial
theorem final.tw16736408373042453830 : True := trivial
theorem final.tw16804519899329603566 : True := trivial
theorem final.tw16818261466616185392 : True := trivial
theorem final.tw8206116037770507618 : True := trivial
theorem final.tw16456738865370837234 : True := trivial
theorem final.tw7126661243278292287 : True := trivial
theorem final.tw2905703098959454887 : True := trivial
theorem final.tw10454836217644237287 : True := trivial
theorem final.tw12434243402859991296 : True := trivial
theorem final.tw12568949044503363111 : True := trivial
theorem final.tw3432969949582198807 : True := trivial
theorem final.tw6197781466302680821 : True := trivial
theorem final.tw8079335022253147970 : True := trivial
theorem final.tw15571021404866415850 : True := trivial
theorem final.tw13057327185021501270 : True := trivial
theorem final.tw13758279927348775124 : True := trivial
theorem final.tw14488476796018068175 : True := trivial
theorem final.tw8075402452970039327 : True := trivial
theorem final.tw2127172771706774708 : True := trivial
theorem final.tw10416037342575211589 : True := trivial
theorem final.tw13932884146235926571 : True := trivial
theorem final.tw14790680771280407793 : True := trivial
theorem final.tw10199228925256988489 : True := trivial
theorem final.tw2991550511653218243 : True := trivial
theorem final.tw10224621064453965233 : True := trivial
theorem final.tw6251086540149224067 : True := trivial
theorem final.tw9102764249993381655 : True := trivial
theorem final.tw16729744837868940983 : True := trivial
theorem final.tw18025042138425265894 : True := trivial
theorem final.tw8217160783603121300 : True := trivial
theorem final.tw2005112990334308027 : True := trivial
theorem final.tw280307629912668531 : True := trivial
theorem final.tw11770147695699197095 : True := trivial
theorem final.tw9593713601932382463 : True := trivial
theorem final.tw11669608820673655032 : True := trivial
theorem final.tw16088262946684195704 : True := trivial
theorem final.tw18070103184348775469 : True := trivial
theorem final.tw8784411142541813036 : True := trivial
theorem final.tw12221730718643410601 : True := trivial
theorem final.tw8330450403124201298 : True := trivial
theorem final.tw15520766337767069766 : True := trivial
theorem final.tw6287988799337221281 : True := trivial
theorem final.tw10188577713288271570 : True := trivial
theorem final.tw2074129235779100214 : True := trivial
theorem final.tw5775451231809367845 : True := trivial
theorem final.tw3594666592844802956 : True := trivial
theorem final.tw8010774654500646381 : True := trivial
theorem final.tw5715442002859033958 : True := trivial
theorem final.tw10161632963138762004 : True := trivial
theorem final.tw612448489156511033 : True := trivial
theorem final.tw6810952829521868146 : True := trivial
theorem final.tw6738639051058713631 : True := trivial
theorem final.tw6237444306845913819 : True := trivial
theorem final.tw17840495593547787621 : True := trivial
theorem final.tw4734387946363390472 : True := trivial
theorem final.tw10312899608796674494 : True := trivial
theorem final.tw435291673838744024 : True := trivial
theorem final.tw16606707094652380617 : True := trivial
theorem final.tw7670205016793622375 : True := trivial
theorem final.tw810453807274400377 : True := trivial
theorem final.tw16307034849428631060 : True := trivial
theorem final.tw11426061724126003059 : True := trivial
theorem final.tw4847114824166867237 : True := trivial
theorem final.tw9436897763311594370 : True := trivial
theorem final.tw3572843432613545285 : True := trivial
theorem final.tw16827915327639548944 : True := trivial
theorem final.tw12388320163498730585 : True := trivial
theorem final.tw11804922165290683997 : True := trivial
theorem final.tw14801915927330167864 : True := trivial
theorem final.tw13213258329521034029 : True := trivial
theorem final.tw13897391481215068121 : True := trivial
theorem final.tw690947140044550828 : True := trivial
theorem final.tw10538697066507191859 : True := trivial
theorem final.tw7659602682733096422 : True := trivial
theorem final.tw2568447754122927195 : True := trivial
theorem final.tw8249835748216858427 : True := trivial
theorem final.tw2170814948208147301 : True := trivial
theorem final.tw10306110873787778624 : True := trivial
theorem final.tw11167537565505646669 : True := trivial
theorem final.tw3357194747569005266 : True := trivial
theorem final.tw5868514484281277132 : True := trivial
theorem final.tw12070791488904688844 : True := trivial
theorem final.tw3594514678496221231 : True := trivial
theorem final.tw6045835083615980830 : True := trivial
theorem final.tw15001232553932299208 : True := trivial
theorem final.tw5207536501628488057 : True := trivial
theorem final.tw16858569460445564859 : True := trivial
theorem final.tw7111484347542407070 : True := trivial
theorem final.tw7693378426387465057 : True := trivial
theorem final.tw6747813125264207965 : True := trivial
theorem final.tw18335638884876044536 : True := trivial
theorem final.tw18299378489252635830 : True := trivial
theorem final.tw3064925409880611957 : True := trivial
theorem final.tw14408366973491280259 : True := trivial
theorem final.tw357260127346895515 : True := trivial
theorem final.tw4946191984998579569 : True := trivial
theorem final.tw197417234119939977 : True := trivial
theorem final.tw9000595201946890093 : True := trivial
theorem final.tw16192844881148308488 : True := trivial
theorem final.tw17419610620423942156 : True := trivial
theorem final.tw7145944312033796372 : True := trivial
theorem final.tw13323123726338207859 : True := trivial
theorem final.tw5862898303659333565 : True := trivial
theorem final.tw7688280501060964012 : True := trivial
theorem final.tw9055581305038966137 : True := trivial
theorem final.tw16617722533671376722 : True := trivial
theorem final.tw10724105057196691051 : True := trivial
theorem final.tw8907902531143524729 : True := trivial
theorem final.tw1529707418608259209 : True := trivial
theorem final.tw8844160976187983197 : True := trivial
theorem final.tw915905855870534666 : True := trivial
theorem final.tw4440426227417583476 : True := trivial
theorem final.tw13131989975174649867 : True := trivial
theorem final.tw7989522840946816671 : True := trivial
theorem final.tw1999056729696986770 : True := trivial
theorem final.tw13824380469819269918 : True := trivial
theorem final.tw15414780999260831588 : True := trivial
theorem final.tw3144490466736437940 : True := trivial
theorem final.tw16717215199182007784 : True := trivial
theorem final.tw11465092740804731956 : True := trivial
theorem final.tw10953423513149870974 : True := trivial
theorem final.tw4482727545709994672 : True := trivial
theorem final.tw12519642555995517922 : True := trivial
theorem final.tw238878847118442858 : True := trivial
theorem final.tw8749980697776509047 : True := trivial
theorem final.tw14206382292417251884 : True := trivial
theorem final.tw13100257853119085954 : True := trivial
theorem final.tw4175329937467103095 : True := trivial
theorem final.tw17491002961691573007 : True := trivial
theorem final.tw9312364028651578760 : True := trivial
theorem final.tw9137123819259196550 : True := trivial
theorem final.tw12821149123211959337 : True := trivial
theorem final.tw16515538201428980985 : True := trivial
theorem final.tw17694953011633281799 : True := trivial
theorem final.tw18070560715458753079 : True := trivial
theorem final.tw8736555631994142679 : True := trivial
theorem final.tw12621450857172087397 : True := trivial
theorem final.tw6672156210698864285 : True := trivial
theorem final.tw14246386467580803243 : True := trivial
theorem final.tw4448756315363891346 : True := trivial
theorem final.tw12583351617774952635 : True := trivial
theorem final.tw5132966960298590319 : True := trivial
theorem final.tw13932218565643927949 : True := trivial
theorem final.tw13633605389036530227 : True := trivial
theorem final.tw10817190833306009818 : True := trivial
theorem final.tw13677401077144643267 : True := trivial
theorem final.tw765831700594987426 : True := trivial
theorem final.tw16002051033060415354 : True := trivial
theorem final.tw13937785351168654725 : True := trivial
theorem final.tw9448424409464925978 : True := trivial
theorem final.tw3082216165793732450 : True := trivial
theorem final.tw3320530072638990442 : True := trivial
theorem final.tw9103109710294371147 : True := trivial
theorem final.tw15628529294471220436 : True := trivial
theorem final.tw8926869343845365012 : True := trivial
theorem final.tw13924348698877557580 : True := trivial
theorem final.tw6269238550149424513 : True := trivial
theorem final.tw18300140153637854842 : True := trivial
theorem final.tw1619877864205492171 : True := trivial
theorem final.tw14383713092325048684 : True := trivial
theorem final.tw9968864560293741486 : True := trivial
theorem final.tw3871651651856613939 : True := trivial
theorem final.tw8157232899958379590 : True := trivial
theorem final.tw12154990263186397774 : True := trivial
theorem final.tw3761664770083586244 : True := trivial
theorem final.tw14579149323906559902 : True := trivial
theorem final.tw7639258913823481347 : True := trivial
theorem final.tw13540723359541788147 : True := trivial
theorem final.tw8214517874112477562 : True := trivial
theorem final.tw9306104339001056295 : True := trivial
theorem final.tw4952826068993972286 : True := trivial
theorem final.tw14400645404390822448 : True := trivial
theorem final.tw3153973838013548782 : True := trivial
theorem final.tw299021032506681863 : True := trivial
theorem final.tw9345069187126319632 : True := trivial
theorem final.tw10602525105628047778 : True := trivial
theorem final.tw8771798048440529662 : True := trivial
theorem final.tw16452449734566835428 : True := trivial
theorem final.tw5287814442999955754 : True := trivial
theorem final.tw15795241056693497721 : True := trivial
theorem final.tw8643667379048919242 : True := trivial
theorem final.tw325278113972157888 : True := trivial
theorem final.tw579546777585378414 : True := trivial
theorem final.tw8989003299910703083 : True := trivial
theorem final.tw2423189912653107054 : True := trivial
theorem final.tw10594605589465413090 : True := trivial
theorem final.tw5357674450682179106 : True := trivial
theorem final.tw11337478032461265716 : True := trivial
theorem final.tw15927819705117130458 : True := trivial
theorem final.tw6419990994061507846 : True := trivial
theorem final.tw5387334140819532763 : True := trivial
theorem final.tw6313580208951256389 : True := trivial
theorem final.tw390303297848668480 : True := trivial
theorem final.tw15756644600535911035 : True := trivial
theorem final.tw9970473603853529698 : True := trivial
theorem final.tw15657509469033099754 : True := trivial
theorem final.tw9264651112525504229 : True := trivial
theorem final.tw18254057717101171182 : True := trivial
theorem final.tw4647538505674478713 : True := trivial
theorem final.tw9816742457576842437 : True := trivial
theorem final.tw4530490493956560721 : True := trivial
theorem final.tw8675913617175129842 : True := trivial
theorem final.tw16531005262064949070 : True := trivial
theorem final.tw6068878854238426277 : True := trivial
theorem final.tw8692042545948368034 : True := trivial
theorem final.tw17254528853400995877 : True := trivial
theorem final.tw13443070527113002820 : True := trivial
theorem final.tw9942094578421886451 : True := trivial
theorem final.tw9008257269704288243 : True := trivial
theorem final.tw1008016073854791943 : True := trivial
theorem final.tw196109069435041418 : True := trivial
theorem final.tw16091359715837580024 : True := trivial
theorem final.tw15763651826451432016 : True := trivial
theorem final.tw9353406124201245279 : True := trivial
theorem final.tw8630296699826243721 : True := trivial
theorem final.tw7043040108037077935 : True := trivial
theorem final.tw9755860072369712273 : True := trivial
theorem final.tw1885215323171419186 : True := trivial
theorem final.tw16545717696918550136 : True := trivial
theorem final.tw5527795235177828517 : True := trivial
theorem final.tw3340540529335587870 : True := trivial
theorem final.tw14411695045533530117 : True := trivial
theorem final.tw17965381431478879550 : True := trivial
theorem final.tw6995384691447267241 : True := trivial
theorem final.tw1543230741966446475 : True := trivial
theorem final.tw14235239606519489317 : True := trivial
theorem final.tw7804180839009622688 : True := trivial
theorem final.tw13344129425061100487 : True := trivial
theorem final.tw5844482014156718614 : True := trivial
theorem final.tw8587970384578393375 : True := trivial
theorem final.tw13710915800573161624 : True := trivial
theorem final.tw18232201153256313934 : True := trivial
theorem final.tw10180714057067902508 : True := trivial
theorem final.tw11737466152145342259 : True := trivial
theorem final.tw10806914746075485903 : True := trivial
theorem final.tw15027621585111970571 : True := trivial
theorem final.tw3279399222524003124 : True := trivial
theorem final.tw7605466397575381488 : True := trivial
theorem final.tw10672732486121751768 : True := trivial
theorem final.tw5187543498519112835 : True := trivial
theorem final.tw9490719869137356441 : True := trivial
theorem final.tw12227523944175726895 : True := trivial
theorem final.tw939991881836607838 : True := trivial
theorem final.tw2538315058004798863 : True := trivial
theorem final.tw12390619997750544838 : True := trivial
theorem final.tw8948541730211625644 : True := trivial
theorem final.tw18121123707460216501 : True := trivial
theorem final.tw17618612953021298069 : True := trivial
theorem final.tw14259429050811741551 : True := trivial
theorem final.tw18229288555927992852 : True := trivial
theorem final.tw16094600097061609449 : True := trivial
theorem final.tw15986311269402536695 : True := trivial
theorem final.tw1294448481255754617 : True := trivial
theorem final.tw11297277884683602292 : True := trivial
theorem final.tw10161156882101446242 : True := trivial
theorem final.tw16683880203533563524 : True := trivial
theorem final.tw415679338665373972 : True := trivial
theorem final.tw3662098141644151894 : True := trivial
theorem final.tw16194748037498784176 : True := trivial
theorem final.tw7426150624717419485 : True := trivial
theorem final.tw13573279112964932175 : True := trivial
theorem final.tw17859187874834560165 : True := trivial
theorem final.tw1676158066577224396 : True := trivial
theorem final.tw285424267325893916 : True := trivial
theorem final.tw10215312145987087083 : True := trivial
theorem final.tw220996918715768359 : True := trivial
theorem final.tw3764006846123730717 : True := trivial
theorem final.tw11848107662032389452 : True := trivial
theorem final.tw3502525580003856831 : True := trivial
theorem final.tw15769194335972318622 : True := trivial
theorem final.tw614858099298841064 : True := trivial
theorem final.tw10114383117290425554 : True := trivial
theorem final.tw12029689046936665287 : True := trivial
theorem final.tw5275804706980719543 : True := trivial
theorem final.tw3607682020777045902 : True := trivial
theorem final.tw7098379334672676885 : True := trivial
theorem final.tw4476635583283730339 : True := trivial
theorem final.tw8385560935062578630 : True := trivial
theorem final.tw5303072415931147995 : True := trivial
theorem final.tw17493948398533991274 : True := trivial
theorem final.tw13383748968316456111 : True := trivial
theorem final.tw16955392641275723831 : True := trivial
theorem final.tw10597894626470544576 : True := trivial
theorem final.tw14286101469987623889 : True := trivial
theorem final.tw4540096614977914346 : True := trivial
theorem final.tw1118807884676732373 : True := trivial
theorem final.tw2368610439716228708 : True := trivial
theorem final.tw3712880951463944099 : True := trivial
theorem final.tw9281383989040374290 : True := trivial
theorem final.tw14058827929801359784 : True := trivial
theorem final.tw8125433384821561138 : True := trivial
theorem final.tw763911435927130969 : True := trivial
theorem final.tw15780547908418682068 : True := trivial
theorem final.tw371624845574484435 : True := trivial
theorem final.tw4665990559692135298 : True := trivial
theorem final.tw13425689979667623814 : True := trivial
theorem final.tw1937969205927177136 : True := trivial
theorem final.tw13639267726770087619 : True := trivial
theorem final.tw3811955659971648847 : True := trivial
theorem final.tw1342580836537108207 : True := trivial
theorem final.tw7776793429360146448 : True := trivial
theorem final.tw14440682285655994272 : True := trivial
theorem final.tw15375372633109900076 : True := trivial
theorem final.tw17254341622381660127 : True := trivial
theorem final.tw5534341297000234059 : True := trivial
theorem final.tw9313309421504845545 : True := trivial
theorem final.tw1808236419904439662 : True := trivial
theorem final.tw10517906693402345058 : True := trivial
theorem final.tw3542141623661490161 : True := trivial
theorem final.tw8173156081390499206 : True := trivial
theorem final.tw13640733546925659713 : True := trivial
theorem final.tw9757479535769758363 : True := trivial
theorem final.tw11266856261679417116 : True := trivial
theorem final.tw10441368776103011599 : True := trivial
theorem final.tw8257617751621057253 : True := trivial
theorem final.tw12659518003822833445 : True := trivial
theorem final.tw9198861019894855768 : True := trivial
theorem final.tw17844367816973474361 : True := trivial
theorem final.tw71418746887348879 : True := trivial
theorem final.tw18054290461231143324 : True := trivial
theorem final.tw8400668682141726107 : True := trivial
theorem final.tw17060797294907641335 : True := trivial
theorem final.tw8977957472954598991 : True := trivial
theorem final.tw15939966550783952682 : True := trivial
theorem final.tw16566265321674454720 : True := trivial
theorem final.tw5579330878285947967 : True := trivial
theorem final.tw6419833055731912293 : True := trivial
theorem final.tw16655032592072258198 : True := trivial
theorem final.tw16757372409646088827 : True := trivial
theorem final.tw14985429555435112268 : True := trivial
theorem final.tw9491761397695167156 : True := trivial
theorem final.tw13681049713119557577 : True := trivial
theorem final.tw14745652393359501439 : True := trivial
theorem final.tw13303357695708788727 : True := trivial
theorem final.tw5969682812947423443 : True := trivial
theorem final.tw13734255474772253932 : True := trivial
theorem final.tw3955102998254137437 : True := trivial
theorem final.tw5671252439436849555 : True := trivial
theorem final.tw11787704830482797467 : True := trivial
theorem final.tw12709154852026024853 : True := trivial
theorem final.tw2465873537245575946 : True := trivial
theorem final.tw9863689493225837687 : True := trivial
theorem final.tw3886502344697447042 : True := trivial
theorem final.tw5629799815043765786 : True := trivial
theorem final.tw16937840926678019168 : True := trivial
theorem final.tw2114858222816778817 : True := trivial
theorem final.tw6781043152078519855 : True := trivial
theorem final.tw1899658879656364447 : True := trivial
theorem final.tw17956869113078296217 : True := trivial
theorem final.tw6621712687197198464 : True := trivial
theorem final.tw13552177188513280874 : True := trivial
theorem final.tw15550270686319598468 : True := trivial
theorem final.tw7891303316909467783 : True := trivial
theorem final.tw4929981262386237485 : True := trivial
theorem final.tw6592455440083365915 : True := trivial
theorem final.tw11829473316630555731 : True := trivial
theorem final.tw7970043543963653613 : True := trivial
theorem final.tw5227219156086640314 : True := trivial
theorem final.tw6531764118590410372 : True := trivial
theorem final.tw13142733641278937693 : True := trivial
theorem final.tw5063792330119103585 : True := trivial
theorem final.tw7815672051971732382 : True := trivial
theorem final.tw12188038068866968334 : True := trivial
theorem final.tw9483726969596377706 : True := trivial
theorem final.tw3161213574307053941 : True := trivial
theorem final.tw16489256323530813339 : True := trivial
theorem final.tw10901484841573595569 : True := trivial
theorem final.tw4443020118039985690 : True := trivial
theorem final.tw17232569373167369237 : True := trivial
theorem final.tw11658633699414221745 : True := trivial
theorem final.tw17960071286561638848 : True := trivial
theorem final.tw1984272825757986108 : True := trivial
theorem final.tw10921311837835979498 : True := trivial
theorem final.tw14762089498771940922 : True := trivial
theorem final.tw10534864463449710757 : True := trivial
theorem final.tw4871927615213948751 : True := trivial
theorem final.tw17067904083963851459 : True := trivial
theorem final.tw9625025362874892391 : True := trivial
theorem final.tw14674446303698192154 : True := trivial
theorem final.tw14969254447684819429 : True := trivial
theorem final.tw8478840880203334401 : True := trivial
theorem final.tw4322258833014708384 : True := trivial
theorem final.tw15986385830511595758 : True := trivial
theorem final.tw812780011982469639 : True := trivial
theorem final.tw13546260371499549404 : True := trivial
theorem final.tw147534417940367385 : True := trivial
theorem final.tw11924456989091788712 : True := trivial
theorem final.tw10611220007701743653 : True := trivial
theorem final.tw15617802630092779390 : True := trivial
theorem final.tw7863470339836641182 : True := trivial
theorem final.tw15260743402353510601 : True := trivial
theorem final.tw5373087133486174285 : True := trivial
theorem final.tw9425434685447677472 : True := trivial
theorem final.tw8513068984702946286 : True := trivial
theorem final.tw6453597217509776351 : True := trivial
theorem final.tw14589101881451475686 : True := trivial
theorem final.tw9403188116013386203 : True := trivial
theorem final.tw13173137459950978828 : True := trivial
theorem final.tw2929216110859150956 : True := trivial
theorem final.tw15405385092967647777 : True := trivial
theorem final.tw5539530900910185068 : True := trivial
theorem final.tw14381371587022553637 : True := trivial
theorem final.tw3044954393437010676 : True := trivial
theorem final.tw738589449015120980 : True := trivial
theorem final.tw3572652999853002283 : True := trivial
theorem final.tw5273127806305784840 : True := trivial
theorem final.tw4757858427022064137 : True := trivial
theorem final.tw7671434140574110938 : True := trivial
theorem final.tw865682431574638592 : True := trivial
theorem final.tw16254512389214260149 : True := trivial
theorem final.tw375844475763279375 : True := trivial
theorem final.tw3668250483883865881 : True := trivial
theorem final.tw11356181648511190782 : True := trivial
theorem final.tw14627085826131272359 : True := trivial
theorem final.tw14027128331861428552 : True := trivial
theorem final.tw14554463453586457432 : True := trivial
theorem final.tw17838763480951447837 : True := trivial
theorem final.tw13722309580294528825 : True := trivial
theorem final.tw14602048009714591753 : True := trivial
theorem final.tw15813976336897503095 : True := trivial
theorem final.tw294409537238847831 : True := trivial
theorem final.tw120587806429819889 : True := trivial
theorem final.tw1801652103104966120 : True := trivial
theorem final.tw13254868259719069984 : True := trivial
theorem final.tw18008626441216107494 : True := trivial
theorem final.tw8570652853812856713 : True := trivial
theorem final.tw1914071670999204225 : True := trivial
theorem final.tw11206371163199637726 : True := trivial
theorem final.tw5492696051366858803 : True := trivial
theorem final.tw2490986377016231535 : True := trivial
theorem final.tw8368693271947826223 : True := trivial
theorem final.tw9831672726846549153 : True := trivial
theorem final.tw6160701549770009972 : True := trivial
theorem final.tw9742497549371900037 : True := trivial
theorem final.tw1375186070420286846 : True := trivial
theorem final.tw16624907728063138074 : True := trivial
theorem final.tw9894453323124332866 : True := trivial
theorem final.tw13841299622064276952 : True := trivial
theorem final.tw7176759139491359948 : True := trivial
theorem final.tw7180385113103877517 : True := trivial
theorem final.tw13354406122938965037 : True := trivial
theorem final.tw16688262208938531809 : True := trivial
theorem final.tw14001336281755129226 : True := trivial
theorem final.tw7235281615042956871 : True := trivial
theorem final.tw17570970265477193404 : True := trivial
theorem final.tw17600864452960395159 : True := trivial
theorem final.tw17808625488599576304 : True := trivial
theorem final.tw2105833246334540578 : True := trivial
theorem final.tw18175068611863601575 : True := trivial
theorem final.tw10125984456141267437 : True := trivial
theorem final.tw5023502505071220870 : True := trivial
theorem final.tw1946116069696260683 : True := trivial
theorem final.tw10297350288907318373 : True := trivial
theorem final.tw12010408242288754455 : True := trivial
theorem final.tw11892448183104382474 : True := trivial
theorem final.tw1313837389837800667 : True := trivial
theorem final.tw2083435218916215384 : True := trivial
theorem final.tw15445377089860821824 : True := trivial
theorem final.tw17156034603432668780 : True := trivial
theorem final.tw14718540712858379511 : True := trivial
theorem final.tw6141679575208919244 : True := trivial
theorem final.tw17130371807034067416 : True := trivial
theorem final.tw1170004692058350399 : True := trivial
theorem final.tw17116569111792686794 : True := trivial
theorem final.tw8030781744408017292 : True := trivial
theorem final.tw7939605648929483393 : True := trivial
theorem final.tw14318006430011488 : True := trivial
theorem final.tw12245501340440913634 : True := trivial
theorem final.tw18119261390355753995 : True := trivial
theorem final.tw10356538569039225980 : True := trivial
theorem final.tw18320305839079824937 : True := trivial
theorem final.tw7907675266908473912 : True := trivial
theorem final.tw51334119226847252 : True := trivial
theorem final.tw2993120418580441965 : True := trivial
theorem final.tw2211719114657133342 : True := trivial
theorem final.tw4969467766764989997 : True := trivial
theorem final.tw5650793360092990839 : True := trivial
theorem final.tw11978686795870505594 : True := trivial
theorem final.tw3500136502058066534 : True := trivial
theorem final.tw4519665051516488413 : True := trivial
theorem final.tw2793124694524887900 : True := trivial
theorem final.tw12882200913762664398 : True := trivial
theorem final.tw254285249066435402 : True := trivial
theorem final.tw4972198577925717196 : True := trivial
theorem final.tw8168529295860363238 : True := trivial
theorem final.tw13491232097508502789 : True := trivial
theorem final.tw12030550963209834301 : True := trivial
theorem final.tw17564578401994421826 : True := trivial
theorem final.tw6951452384008519854 : True := trivial
theorem final.tw11450333136924995803 : True := trivial
theorem final.tw11524834323698472518 : True := trivial
theorem final.tw4961721195862968401 : True := trivial
theorem final.tw3165394158165441737 : True := trivial
theorem final.tw14926642688873545352 : True := trivial
theorem final.tw676446720204719731 : True := trivial
theorem final.tw3918752560292128229 : True := trivial
theorem final.tw7146030554993803125 : True := trivial
theorem final.tw9939968456742700381 : True := trivial
theorem final.tw4450732490853704990 : True := trivial
theorem final.tw17011060705746853852 : True := trivial
theorem final.tw14770438273732082721 : True := trivial
theorem final.tw6542300857832469691 : True := trivial
theorem final.tw6721608018258922458 : True := trivial
theorem final.tw18235965433248866284 : True := trivial
theorem final.tw6898144004135180077 : True := trivial
theorem final.tw7497469534399527080 : True := trivial
theorem final.tw12772209570213639160 : True := trivial
theorem final.tw13447476242907004516 : True := trivial
theorem final.tw11390889815537541972 : True := trivial
theorem final.tw10830281249159727967 : True := trivial
theorem final.tw12327980582688733603 : True := trivial
theorem final.tw13664049482891580450 : True := trivial
theorem final.tw17742481647923364404 : True := trivial
theorem final.tw17997634870388859891 : True := trivial
theorem final.tw16183185541062917606 : True := trivial
theorem final.tw504676858086567656 : True := trivial
theorem final.tw9112936701463973857 : True := trivial
theorem final.tw13714914917290690533 : True := trivial
theorem final.tw13106499756116908685 : True := trivial
theorem final.tw2717640682957873952 : True := trivial
theorem final.tw12754994135167349198 : True := trivial
theorem final.tw8015881722160188696 : True := trivial
theorem final.tw3643844130275940097 : True := trivial
theorem final.tw3043271966293496270 : True := trivial
theorem final.tw15521895402825334349 : True := trivial
theorem final.tw12164021587333718893 : True := trivial
theorem final.tw3458437735778483103 : True := trivial
theorem final.tw6571984570723018046 : True := trivial
theorem final.tw6070699634291427341 : True := trivial
theorem final.tw6371903645830392043 : True := trivial
theorem final.tw7383017361622065096 : True := trivial
theorem final.tw10402419635561750508 : True := trivial
theorem final.tw15587782793554144417 : True := trivial
theorem final.tw10076129667208244130 : True := trivial
theorem final.tw12140656206196871116 : True := trivial
theorem final.tw7014999613224631786 : True := trivial
theorem final.tw11481248816738061681 : True := trivial
theorem final.tw18217126196422407669 : True := trivial
theorem final.tw2746170925059715199 : True := trivial
theorem final.tw7620226193994740192 : True := trivial
theorem final.tw12700819614391286240 : True := trivial
theorem final.tw47742523016427792 : True := trivial
theorem final.tw5919782281488136058 : True := trivial
theorem final.tw178856549303157949 : True := trivial
theorem final.tw2760015220212789542 : True := trivial
theorem final.tw2384301648084984197 : True := trivial
theorem final.tw16130956370004706378 : True := trivial
theorem final.tw14894321927940946332 : True := trivial
theorem final.tw13442730581833187434 : True := trivial
theorem final.tw13678925532786364400 : True := trivial
theorem final.tw3840641610185322478 : True := trivial
theorem final.tw16889710589509062415 : True := trivial
theorem final.tw16864797568218438770 : True := trivial
theorem final.tw14919472066606815195 : True := trivial
theorem final.tw6823811518470544321 : True := trivial
theorem final.tw16750058044860133111 : True := trivial
theorem final.tw1348592535762024055 : True := trivial
theorem final.tw13312331445973889129 : True := trivial
theorem final.tw3732414621783565298 : True := trivial
theorem final.tw5842858856160323860 : True := trivial
theorem final.tw11019127512060513541 : True := trivial
theorem final.tw9916439229683239000 : True := trivial
theorem final.tw10537314614977306494 : True := trivial
theorem final.tw10995799485176624564 : True := trivial
theorem final.tw17271678091744108460 : True := trivial
theorem final.tw18253568335478021207 : True := trivial
theorem final.tw9631222789141066802 : True := trivial
theorem final.tw5662518466406767452 : True := trivial
theorem final.tw6076646534192502296 : True := trivial
theorem final.tw3189803242935404189 : True := trivial
theorem final.tw4922211986319805629 : True := trivial
theorem final.tw7199878626435670534 : True := trivial
theorem final.tw9200861954625059288 : True := trivial
theorem final.tw11619467900279011624 : True := trivial
theorem final.tw18237845511845967881 : True := trivial
theorem final.tw10142082337376202590 : True := trivial
theorem final.tw2928034350669322511 : True := trivial
theorem final.tw17688347264267035433 : True := trivial
theorem final.tw7269942621778516828 : True := trivial
theorem final.tw11955797467833686761 : True := trivial
theorem final.tw10854406479047414780 : True := trivial
theorem final.tw16349697001692007968 : True := trivial
theorem final.tw17773725957685661026 : True := trivial
theorem final.tw1232898070931277536 : True := trivial
theorem final.tw6965368798411069874 : True := trivial
theorem final.tw8405873307692943298 : True := trivial
theorem final.tw18109256662729231845 : True := trivial
theorem final.tw9941192478711597210 : True := trivial
theorem final.tw6918044373443152869 : True := trivial
theorem final.tw17817940975862272208 : True := trivial
theorem final.tw11958455431902144470 : True := trivial
theorem final.tw11995905380589093846 : True := trivial
theorem final.tw3423011392106909908 : True := trivial
theorem final.tw15280189013440407246 : True := trivial
theorem final.tw4362540023750855972 : True := trivial
theorem final.tw8233880718978709118 : True := trivial
theorem final.tw15698488639143285003 : True := trivial
theorem final.tw3995507146310314523 : True := trivial
theorem final.tw4972496415805388036 : True := trivial
theorem final.tw17207749066074509582 : True := trivial
theorem final.tw12129317085291748260 : True := trivial
theorem final.tw16425664772861309400 : True := trivial
theorem final.tw5134383557339129070 : True := trivial
theorem final.tw4017921799045646269 : True := trivial
theorem final.tw4066771613645321359 : True := trivial
theorem final.tw8976061892819025188 : True := trivial
theorem final.tw15076282658305369225 : True := trivial
theorem final.tw277554049944467862 : True := trivial
theorem final.tw620651438199852349 : True := trivial
theorem final.tw7905935429399957088 : True := trivial
theorem final.tw15977698265614028151 : True := trivial
theorem final.tw4492935218274971174 : True := trivial
theorem final.tw9248934485362059183 : True := trivial
theorem final.tw17348866669092511446 : True := trivial
theorem final.tw9958129675010017044 : True := trivial
theorem final.tw16712278133652960260 : True := trivial
theorem final.tw6715444763510110276 : True := trivial
theorem final.tw9818849540693241105 : True := trivial
theorem final.tw8388503740403161299 : True := trivial
theorem final.tw5766708943031071563 : True := trivial
theorem final.tw12634391297929703312 : True := trivial
theorem final.tw4003122937912073549 : True := trivial
theorem final.tw11131870277966233414 : True := trivial
theorem final.tw10042965834813683373 : True := trivial
theorem final.tw5966920934532874229 : True := trivial
theorem final.tw12440346125019193960 : True := trivial
theorem final.tw7952453581418233333 : True := trivial
theorem final.tw7767387624620244988 : True := trivial
theorem final.tw8217778291380471635 : True := trivial
theorem final.tw1396183971476958959 : True := trivial
theorem final.tw17341135088795978082 : True := trivial
theorem final.tw36477799951111281 : True := trivial
theorem final.tw15073234954685125050 : True := trivial
theorem final.tw9163743764392425103 : True := trivial
theorem final.tw6421591649635148313 : True := trivial
theorem final.tw6526182415418824298 : True := trivial
theorem final.tw8590242241475741646 : True := trivial
theorem final.tw6408945979460530187 : True := trivial
theorem final.tw1316021355715269476 : True := trivial
theorem final.tw10434720445431053083 : True := trivial
theorem final.tw9782181310590032641 : True := trivial
theorem final.tw11257362496899226017 : True := trivial
theorem final.tw8404139598873269208 : True := trivial
theorem final.tw1844879473109939887 : True := trivial
theorem final.tw10081519795225110338 : True := trivial
theorem final.tw10289772935113878860 : True := trivial
theorem final.tw8408332340281381443 : True := trivial
theorem final.tw17923217463060463996 : True := trivial
theorem final.tw14591379854021888196 : True := trivial
theorem final.tw15449854928947644815 : True := trivial
theorem final.tw992258099292818005 : True := trivial
theorem final.tw3351236627068109140 : True := trivial
theorem final.tw3808542032367126653 : True := trivial
theorem final.tw6602909659743980070 : True := trivial
theorem final.tw9540591135903541555 : True := trivial
theorem final.tw12108970085165490869 : True := trivial
theorem final.tw17810936184317285931 : True := trivial
theorem final.tw8491772787089878524 : True := trivial
theorem final.tw1784584180045882116 : True := trivial
theorem final.tw10577041991529667484 : True := trivial
theorem final.tw6365865293759391210 : True := trivial
theorem final.tw13825604712057116467 : True := trivial
theorem final.tw1784071794964086764 : True := trivial
theorem final.tw9270360050086415963 : True := trivial
theorem final.tw11172106239312624216 : True := trivial
theorem final.tw9720085940452224968 : True := trivial
theorem final.tw10797965660840378617 : True := trivial
theorem final.tw12479076758279517536 : True := trivial
theorem final.tw2983011315478827815 : True := trivial
theorem final.tw12539685201836370295 : True := trivial
theorem final.tw6970220846510554927 : True := trivial
theorem final.tw9620110610055858947 : True := trivial
theorem final.tw18340782887206451389 : True := trivial
theorem final.tw14651265093543397988 : True := trivial
theorem final.tw700224233984393618 : True := trivial
theorem final.tw2269337529269901705 : True := trivial
theorem final.tw4360702132255101197 : True := trivial
theorem final.tw10224173145378709586 : True := trivial
theorem final.tw12238233564043123199 : True := trivial
theorem final.tw9929006715839228223 : True := trivial
theorem final.tw3803624876895937746 : True := trivial
theorem final.tw17546843965878525150 : True := trivial
theorem final.tw5243877663143047644 : True := trivial
theorem final.tw10733336946432867847 : True := trivial
theorem final.tw14309581773983710294 : True := trivial
theorem final.tw5000038520364693137 : True := trivial
theorem final.tw5684323022613226161 : True := trivial
theorem final.tw10297636371877612864 : True := trivial
theorem final.tw10667176699616517202 : True := trivial
theorem final.tw6972499604022317663 : True := trivial
theorem final.tw1845810288494408354 : True := trivial
theorem final.tw12554179143398768767 : True := trivial
theorem final.tw11936738946385910058 : True := trivial
theorem final.tw13769417254575568253 : True := trivial
theorem final.tw14201474879806369840 : True := trivial
theorem final.tw7056070185356389068 : True := trivial
theorem final.tw7371695077661975442 : True := trivial
theorem final.tw3577115197728732437 : True := trivial
theorem final.tw18366223280758078207 : True := trivial
theorem final.tw11219094688301463763 : True := trivial
theorem final.tw10662465135705077056 : True := trivial
theorem final.tw17615633654929299130 : True := trivial
theorem final.tw5099683158589010722 : True := trivial
theorem final.tw589536539112286545 : True := trivial
theorem final.tw10342053526949430698 : True := trivial
theorem final.tw34470440911267528 : True := trivial
theorem final.tw14750463883215448380 : True := trivial
theorem final.tw13415185681900690701 : True := trivial
theorem final.tw2622668470708629953 : True := trivial
theorem final.tw4528745644092194985 : True := trivial
theorem final.tw15242038890910308834 : True := trivial
theorem final.tw5817706672927108930 : True := trivial
theorem final.tw18085794974999196567 : True := trivial
theorem final.tw12956191123010032320 : True := trivial
theorem final.tw7440311314078597044 : True := trivial
theorem final.tw12824532770809513547 : True := trivial
theorem final.tw1776400420509941265 : True := trivial
theorem final.tw16091002985052501667 : True := trivial
theorem final.tw7093977793142538431 : True := trivial
theorem final.tw1383214448159636157 : True := trivial
theorem final.tw13886124639125294195 : True := trivial
theorem final.tw2182994713218751510 : True := trivial
theorem final.tw15814700290226788637 : True := trivial
theorem final.tw7083112683417272786 : True := trivial
theorem final.tw11855695751902756518 : True := trivial
theorem final.tw15576747511626467972 : True := trivial
theorem final.tw17604257001849308379 : True := trivial
theorem final.tw13675637854078145224 : True := trivial
theorem final.tw7179755955658967669 : True := trivial
theorem final.tw11498149389958728958 : True := trivial
theorem final.tw15954225887120865547 : True := trivial
theorem final.tw11668431506725119887 : True := trivial
theorem final.tw6280130457715896778 : True := trivial
theorem final.tw12830720618872316686 : True := trivial
theorem final.tw13874318767643481350 : True := trivial
theorem final.tw11398175964782222465 : True := trivial
theorem final.tw8321510495856701750 : True := trivial
theorem final.tw17392666455987662980 : True := trivial
theorem final.tw1997762145206075749 : True := trivial
theorem final.tw5629095810816050319 : True := trivial
theorem final.tw4321219389256223599 : True := trivial
theorem final.tw7788640911095586825 : True := trivial
theorem final.tw10137889595624107854 : True := trivial
theorem final.tw6141422389663581814 : True := trivial
theorem final.tw7019355097140047958 : True := trivial
theorem final.tw16998974508707328776 : True := trivial
theorem final.tw13054758424226429364 : True := trivial
theorem final.tw7110189768217437366 : True := trivial
theorem final.tw9673046762135544081 : True := trivial
theorem final.tw12868056560945776196 : True := trivial
theorem final.tw10817249043144373050 : True := trivial
theorem final.tw13017143341818878511 : True := trivial
theorem final.tw17318797479754086568 : True := trivial
theorem final.tw4679038436594939445 : True := trivial
theorem final.tw15697404270930401081 : True := trivial
theorem final.tw5656741457812357012 : True := trivial
theorem final.tw3538142424521237947 : True := trivial
theorem final.tw5815279821183893616 : True := trivial
theorem final.tw13720855972442284198 : True := trivial
theorem final.tw3932778018266812958 : True := trivial
theorem final.tw4918500104454436803 : True := trivial
theorem final.tw3552196750872334810 : True := trivial
theorem final.tw12524655753550326904 : True := trivial
theorem final.tw5522671609897714626 : True := trivial
theorem final.tw6116954508822668922 : True := trivial
theorem final.tw5807275859583851707 : True := trivial
theorem final.tw16515075280591848475 : True := trivial
theorem final.tw13940534850196422246 : True := trivial
theorem final.tw2039050302391708199 : True := trivial
theorem final.tw12093190362586539499 : True := trivial
theorem final.tw11407225236829303386 : True := trivial
theorem final.tw15303689167693747638 : True := trivial
theorem final.tw3301634886483007942 : True := trivial
theorem final.tw16176036066015065966 : True := trivial
theorem final.tw5431513316210134039 : True := trivial
theorem final.tw3357014544758503932 : True := trivial
theorem final.tw2161187499787533948 : True := trivial
theorem final.tw10911070210055742392 : True := trivial
theorem final.tw15150865472571478090 : True := trivial
theorem final.tw12784335556843828303 : True := trivial
theorem final.tw9829619828484225995 : True := trivial
theorem final.tw11022142338094483397 : True := trivial
theorem final.tw11366097360037765310 : True := trivial
theorem final.tw9173220439980043783 : True := trivial
theorem final.tw17477755078358308710 : True := trivial
theorem final.tw8283056401672946979 : True := trivial
theorem final.tw17946044817433501859 : True := trivial
theorem final.tw14954929063731606302 : True := trivial
theorem final.tw16658542315195591626 : True := trivial
theorem final.tw15613925789085065216 : True := trivial
theorem final.tw2289217110063947096 : True := trivial
theorem final.tw6378724182023982138 : True := trivial
theorem final.tw14983533503738973958 : True := trivial
theorem final.tw324662699875884877 : True := trivial
theorem final.tw4252370250675439692 : True := trivial
theorem final.tw14946943912085004253 : True := trivial
theorem final.tw17359079060205873470 : True := trivial
theorem final.tw4594023687855464576 : True := trivial
theorem final.tw8131048101177170452 : True := trivial
theorem final.tw12163110311348690629 : True := trivial
theorem final.tw14315563825273645975 : True := trivial
theorem final.tw11423573415607108301 : True := trivial
theorem final.tw3397572382393006446 : True := trivial
theorem final.tw3905422424419497523 : True := trivial
theorem final.tw1232607592259985945 : True := trivial
theorem final.tw7276907120468281583 : True := trivial
theorem final.tw10963739241125528201 : True := trivial
theorem final.tw6156788303724912887 : True := trivial
theorem final.tw17754974396862952757 : True := trivial
theorem final.tw9345162389149095888 : True := trivial
theorem final.tw3255932446202140959 : True := trivial
theorem final.tw1132216676896244710 : True := trivial
theorem final.tw15060080557276885762 : True := trivial
theorem final.tw4436342950111276686 : True := trivial
theorem final.tw13712629634256229159 : True := trivial
theorem final.tw14982976440227300913 : True := trivial
theorem final.tw5360755547616990282 : True := trivial
theorem final.tw1017620065676271599 : True := trivial
theorem final.tw16006786977684447214 : True := trivial
theorem final.tw13659909294008784577 : True := trivial
theorem final.tw2678669764702575954 : True := trivial
theorem final.tw15868119410239446193 : True := trivial
theorem final.tw14181568291508428525 : True := trivial
theorem final.tw8690392280380091838 : True := trivial
theorem final.tw17779673709519024823 : True := trivial
theorem final.tw17562474340391477326 : True := trivial
theorem final.tw10635634443911215959 : True := trivial
theorem final.tw4912218843639840673 : True := trivial
theorem final.tw6050819286835588884 : True := trivial
theorem final.tw9527024486194059781 : True := trivial
theorem final.tw5426790291499882782 : True := trivial
theorem final.tw3303330950293106221 : True := trivial
theorem final.tw18385552141350936473 : True := trivial
theorem final.tw1155515001537769119 : True := trivial
theorem final.tw16603713742430676331 : True := trivial
theorem final.tw4245890939896596020 : True := trivial
theorem final.tw15872521978539012859 : True := trivial
theorem final.tw6862890601081590199 : True := trivial
theorem final.tw16921337842562070771 : True := trivial
theorem final.tw9007569612984226418 : True := trivial
theorem final.tw8083251807231958655 : True := trivial
theorem final.tw10620603178212543440 : True := trivial
theorem final.tw2213512193351851642 : True := trivial
theorem final.tw2767771046720207330 : True := trivial
theorem final.tw3914675602938924186 : True := trivial
theorem final.tw17519019073838637857 : True := trivial
theorem final.tw11368253151146160412 : True := trivial
theorem final.tw7334989181719029605 : True := trivial
theorem final.tw16971667800278343720 : True := trivial
theorem final.tw12832447373040134331 : True := trivial
theorem final.tw12132851253046422280 : True := trivial
theorem final.tw15242021961506282917 : True := trivial
theorem final.tw5458638409584695991 : True := trivial
theorem final.tw15922483180172888908 : True := trivial
theorem final.tw15754735879269536571 : True := trivial
theorem final.tw2064281156771745263 : True := trivial
theorem final.tw16103201164218974608 : True := trivial
theorem final.tw1342554080630500432 : True := trivial
theorem final.tw14849749454096038320 : True := trivial
theorem final.tw370577145066065948 : True := trivial
theorem final.tw3994006194142229315 : True := trivial
theorem final.tw6439694734779600345 : True := trivial
theorem final.tw16468355328228298859 : True := trivial
theorem final.tw11456093736273112016 : True := trivial
theorem final.tw12590993025449701457 : True := trivial
theorem final.tw13411562551722752122 : True := trivial
theorem final.tw14759162599336984793 : True := trivial
theorem final.tw13900943423474659334 : True := trivial
theorem final.tw14381547883720758222 : True := trivial
theorem final.tw15887802743240357787 : True := trivial
theorem final.tw8179871008863066223 : True := trivial
theorem final.tw3925989169376062988 : True := trivial
theorem final.tw4930492508796005827 : True := trivial
theorem final.tw13322936741467037896 : True := trivial
theorem final.tw7678484390577989634 : True := trivial
theorem final.tw3889690556457392732 : True := trivial
theorem final.tw433092073922058665 : True := trivial
theorem final.tw449426601608739657 : True := trivial
theorem final.tw1806527311746347802 : True := trivial
theorem final.tw14103514386407426777 : True := trivial
theorem final.tw12855410255629186183 : True := trivial
theorem final.tw13138021892118467358 : True := trivial
theorem final.tw11317377291063673530 : True := trivial
theorem final.tw17741599412546824451 : True := trivial
theorem final.tw9868439457383154151 : True := trivial
theorem final.tw766831657919639965 : True := trivial
theorem final.tw13446938115912411369 : True := trivial
theorem final.tw14151919825370897406 : True := trivial
theorem final.tw13233406397022975367 : True := trivial
theorem final.tw10364716993360705332 : True := trivial
theorem final.tw7411738630072224729 : True := trivial
theorem final.tw1067351568669497868 : True := trivial
theorem final.tw15468525895817231714 : True := trivial
theorem final.tw14561553926612872543 : True := trivial
theorem final.tw4082331121136005098 : True := trivial
theorem final.tw6968812783454475257 : True := trivial
theorem final.tw10417581457256616670 : True := trivial
theorem final.tw4020310257540766833 : True := trivial
set_option Elab.async true
theorem final : PySem.Challenge.rw_ij0136_01.Holds := by
  w_on; o_law; k_head; (case hw => w_witness2)
  exact c_tail _ _ (by first | rfl | kernel_rfl) _ _ _ _ rfl
end Mine.Internal
end
theorem PySem.Challenge.cw_ij0136_01_holds : PySem.Challenge.rw_ij0136_01.Holds :=
  Mine.Internal.final
